import JvmDerived
import JvmDerived.Pilot.@@N@@Statement
import JvmDerived.Pilot.@@N@@Code
set_option linter.unusedVariables false
set_option linter.unusedSimpArgs false
/- laws to paste: Road.backV (cut by pick.py; bodies as the Statement names them) -/
namespace Jvm.Pilot.@@N@@
namespace StrChars
open Jvm Sem ClassFile Op Lib Jvm.Stand Jvm.Free.XT Jvm.Free.ALB Jvm.Free.JM Jvm.Free
open Jvm.Lib.Cold (StaticIs)
/-- a char array whose places are chars -/
def Ch (a : Addr) (A : Cell) (U : State) : Prop := Arr .char a A U ∧ Typed .char A
theorem Ch.mv {a : Addr} {A : Cell} {U U' : State} (h : Ch a A U) (hal : U.vm.Alike U'.vm) (hh : U'.heap = U.heap) : Ch a A U' := ⟨h.1.mv hal hh, h.2⟩
theorem Ch.keep {a : Addr} {A : Cell} {U U' : State} (h : Ch a A U) (hal : U.vm.Alike U'.vm) (hk : U'.heap[a]? = some A) : Ch a A U' := ⟨h.1.keep hal hk, h.2⟩
/-- what place i of a char[]'s cell holds -/
def cv (A : Cell) (i : Nat) : Int32 := match A.slots[i]? with | some (.int x) => x | _ => 0
theorem Ch.get {a : Addr} {A : Cell} {U : State} (h : Ch a A U) {i : Nat} (hi : i < A.slots.size) : A.slots[i]? = some (.int (cv A i)) := by
  have e := Array.getElem?_eq_getElem hi
  have f := h.2 i _ e
  unfold cv; rw [e]
  generalize A.slots[i] = v at f
  cases v <;> simp [fits] at f ⊢
/-- the byte that i2b leaves of a char -/
def lo8 (x : Int32) : Int32 := x.toInt8.toInt32
theorem fits_lo8 (y : Int32) : fits .byte (.int (lo8 y)) = true := by
  have h1 := y.toInt8.le_toInt
  have h2 := y.toInt8.toInt_lt
  simp only [lo8, fits, Bool.and_eq_true, decide_eq_true_eq, Int32.le_iff_toInt_le, Int8.toInt_toInt32, show (-128 : Int32).toInt = -128 from by decide, show (127 : Int32).toInt = 127 from by decide]
  omega
/-- A' is A but that each place j of lo .. hi - 1 holds f j -/
def Laid (A A' : Cell) (lo hi : Nat) (f : Nat → Value) : Prop := A'.cls = A.cls ∧ A'.vm = A.vm ∧ A'.slots.size = A.slots.size ∧ ∀ i, A'.slots[i]? = if lo ≤ i ∧ i < hi then some (f i) else A.slots[i]?
theorem Laid.zero (A : Cell) (lo : Nat) (f : Nat → Value) : Laid A A lo (lo + 0) f := ⟨rfl, rfl, rfl, fun i => by rw [if_neg (by omega)]⟩
theorem Laid.step {A Ak : Cell} {lo k : Nat} {f : Nat → Value} {v : Value} (h : Laid A Ak lo k f) (hlo : lo ≤ k) (hk : k < Ak.slots.size) (hv : v = f k) : Laid A (Ak.setSlot k v) lo (k + 1) f := by
  refine ⟨h.1, h.2.1, by simpa [Cell.setSlot] using h.2.2.1, fun i => ?_⟩
  by_cases e : k = i
  · subst e; rw [Cell.slots_setSlot_self v hk, if_pos (by omega), hv]
  · rw [Cell.slots_setSlot_ne v e, h.2.2.2 i]
    by_cases q : lo ≤ i ∧ i < k
    · rw [if_pos q, if_pos (by omega)]
    · rw [if_neg q, if_neg (by omega)]
def U16 : String := "java/lang/StringUTF16"
namespace Cmp5
def yN : MethodName := ⟨"java/lang/StringUTF16", "compress", "([CI[BII)I"⟩
abbrev yB : ByteArray := jdk_52_method_21_code
theorem d0 : decode yB 0 = .ok (.iconst 0, 1) := by decide +kernel
theorem d1 : decode yB 1 = .ok (.istore 5, 2) := by decide +kernel
theorem d3 : decode yB 3 = .ok (.iload 5, 2) := by decide +kernel
theorem d5 : decode yB 5 = .ok (.iload 4, 2) := by decide +kernel
theorem d7 : decode yB 7 = .ok (.if_icmp (.ge) 37, 3) := by decide +kernel
theorem d10 : decode yB 10 = .ok (.aload_n 0, 1) := by decide +kernel
theorem d11 : decode yB 11 = .ok (.iload_n 1, 1) := by decide +kernel
theorem d12 : decode yB 12 = .ok (.caload, 1) := by decide +kernel
theorem d13 : decode yB 13 = .ok (.istore 6, 2) := by decide +kernel
theorem d15 : decode yB 15 = .ok (.iload 6, 2) := by decide +kernel
theorem d17 : decode yB 17 = .ok (.sipush 255, 3) := by decide +kernel
theorem d20 : decode yB 20 = .ok (.if_icmp (.le) 6, 3) := by decide +kernel
theorem d26 : decode yB 26 = .ok (.aload_n 2, 1) := by decide +kernel
theorem d27 : decode yB 27 = .ok (.iload_n 3, 1) := by decide +kernel
theorem d28 : decode yB 28 = .ok (.iload 6, 2) := by decide +kernel
theorem d30 : decode yB 30 = .ok (.i2b, 1) := by decide +kernel
theorem d31 : decode yB 31 = .ok (.bastore, 1) := by decide +kernel
theorem d32 : decode yB 32 = .ok (.iinc 1 1, 3) := by decide +kernel
theorem d35 : decode yB 35 = .ok (.iinc 3 1, 3) := by decide +kernel
theorem d38 : decode yB 38 = .ok (.iinc 5 1, 3) := by decide +kernel
theorem d41 : decode yB 41 = .ok (.goto (-38), 3) := by decide +kernel
theorem d44 : decode yB 44 = .ok (.iload 4, 2) := by decide +kernel
theorem d46 : decode yB 46 = .ok (.ireturn, 1) := by decide +kernel
def site : List Cond := []
def tab : Cond := tabOf yN yB 7 (some .int) site
def P (b : Addr) (A : Cell) (d : Addr) (B : Cell) (o q len : Nat) (args : Array Value) (s : State) : Prop := args = #[.ref b, .int (Int32.ofNat o), .ref d, .int (Int32.ofNat q), .int (Int32.ofNat len)] ∧ Ch b A s ∧ Arr .byte d B s ∧ b ≠ d ∧ o + len ≤ A.slots.size ∧ q + len ≤ B.slots.size ∧ ∀ i, i < len → ¬ 255 < cv A (o + i)
def E (b : Addr) (A : Cell) (d : Addr) (B : Cell) (o q len : Nat) (r : Option Value) (s u : State) : Prop := r = some (.int (Int32.ofNat len)) ∧ ∃ B', Put d B' s u ∧ Laid B B' q (q + len) (fun j => Value.int (lo8 (cv A (o + (j - q)))))
/-- no char of the range above 255: len; the places written hold each char's low byte -/
theorem law (l : Launch) (b : Addr) (A : Cell) (d : Addr) (B : Cell) (o q len : Nat) : Law l yN 5 5 0 0 yB 7 (some .int) site (P b A d B o q len) (E b A d B o q len) (copyLocs d q len) 0 0 := by
  refine Law.of_walk (plainFor_of_name (by decide +kernel)) (by decide +kernel) (by decide +kernel) (by decide) (fun _ _ h => by rw [h.1]; rfl) (fun _ U U' hal hh h => ⟨h.1, h.2.1.mv hal hh, h.2.2.1.mv hal hh, h.2.2.2⟩) (fun r U U' V V' h1 hal h2 h => ⟨h.1, h.2.elim fun B' q => ⟨B', q.1.mv h1 h2, q.2⟩⟩) ?_
  intro p e s m args below meth c s₁ X0 hexec hbytes hml hret hlk hnm hown hh0 W hP
  obtain ⟨rfl, hA, hB, hne, l1, l2, hp⟩ := hP
  have c1 : Steps p.tables e below (s₁.setTop (entryFrame m #[.ref b, .int (Int32.ofNat o), .ref d, .int (Int32.ofNat q), .int (Int32.ofNat len)] 7)) (s₁.setTop (mkF m 0 #[.val (.ref b), .val (.int (Int32.ofNat o)), .val (.ref d), .val (.int (Int32.ofNat q)), .val (.int (Int32.ofNat len)), .unset, .unset] [])) := entry rfl
  have hA0 := hA.1.mv X0.warmed.alike hh0
  have hB0 := hB.mv X0.warmed.alike hh0
  have a31 := hA.1.2.2.2
  have c2 : Steps p.tables e below (s₁.setTop (entryFrame m #[.ref b, .int (Int32.ofNat o), .ref d, .int (Int32.ofNat q), .int (Int32.ofNat len)] 7)) (s₁.setTop (mkF m 3 #[.val (.ref b), .val (.int (Int32.ofNat o)), .val (.ref d), .val (.int (Int32.ofNat q)), .val (.int (Int32.ofNat len)), .val (.int 0), .unset] [])) := c1.trans (by
    refine iconstV X0.here hexec rfl 0 (hb hbytes d0) (by decide) ?_
    refine XS.istore X0.here hexec rfl (hb hbytes d1) rfl rfl ?_
    exact Steps.refl _)
  have loop : ∀ (r i : Nat), i + r = len → ∀ (z : Slot), (z = .unset ∨ ∃ w, z = .val w ∧ w.category = 1) → ∀ (Tl : State) (Bk : Cell), Stand p l e { frames := 0, locals := 0, cells := 0, slots := 0 } s m #[.ref b, .int (Int32.ofNat o), .ref d, .int (Int32.ofNat q), .int (Int32.ofNat len)] below meth c Tl ([] ++ copyLocs d q i) 0 0 → Put d Bk s₁ Tl → Laid B Bk q (q + i) (fun j => Value.int (lo8 (cv A (o + (j - q))))) →
      Steps p.tables e below (s₁.setTop (entryFrame m #[.ref b, .int (Int32.ofNat o), .ref d, .int (Int32.ofNat q), .int (Int32.ofNat len)] 7)) (Tl.setTop (mkF m 3 #[.val (.ref b), .val (.int (Int32.ofNat (o + i))), .val (.ref d), .val (.int (Int32.ofNat (q + i))), .val (.int (Int32.ofNat len)), .val (.int (Int32.ofNat i)), z] [])) → ∃ (T' : State) (B' : Cell) (z' : Slot), Stand p l e { frames := 0, locals := 0, cells := 0, slots := 0 } s m #[.ref b, .int (Int32.ofNat o), .ref d, .int (Int32.ofNat q), .int (Int32.ofNat len)] below meth c T' ([] ++ copyLocs d q len) 0 0 ∧ Put d B' s₁ T' ∧ Laid B B' q (q + len) (fun j => Value.int (lo8 (cv A (o + (j - q))))) ∧
      Steps p.tables e below (s₁.setTop (entryFrame m #[.ref b, .int (Int32.ofNat o), .ref d, .int (Int32.ofNat q), .int (Int32.ofNat len)] 7)) (T'.setTop (mkF m 3 #[.val (.ref b), .val (.int (Int32.ofNat (o + len))), .val (.ref d), .val (.int (Int32.ofNat (q + len))), .val (.int (Int32.ofNat len)), .val (.int (Int32.ofNat len)), z'] [])) := by
    intro r
    induction r with
    | zero =>
      intro i hi z hz Tl Bk Xl pl fl cl
      have hil : i = len := by omega
      rw [hil] at Xl fl cl
      exact ⟨Tl, Bk, z, Xl, pl, fl, cl⟩
    | succ r ih =>
      intro i hi z hz Tl Bk Xl pl fl cl
      have all := X0.warmed.alike.symm.trans Xl.warmed.alike
      have hAl := hA0.keep all (pl.other hne hA0.1)
      have hBk := hB0.like all pl.1 fl.1 fl.2.1 fl.2.2.1
      have hlt : q + i < Bk.slots.size := by rw [fl.2.2.1]; omega
      have c3 : Steps p.tables e below (s₁.setTop (entryFrame m #[.ref b, .int (Int32.ofNat o), .ref d, .int (Int32.ofNat q), .int (Int32.ofNat len)] 7)) (Tl.setTop (mkF m 12 #[.val (.ref b), .val (.int (Int32.ofNat (o + i))), .val (.ref d), .val (.int (Int32.ofNat (q + i))), .val (.int (Int32.ofNat len)), .val (.int (Int32.ofNat i)), z] [.int (Int32.ofNat (o + i)), .ref b])) := cl.trans (by
        refine XS.iload Xl.here hexec rfl (hb hbytes d3) rfl ?_
        refine XS.iload Xl.here hexec rfl (hb hbytes d5) rfl ?_
        refine XS.icmpNo Xl.here hexec rfl (hb hbytes d7) rfl (ii_ge_f (lt32 (by omega) (by omega))) ?_
        refine XS.aloadN Xl.here hexec rfl (hb hbytes d10) rfl rfl ?_
        refine XS.iloadN Xl.here hexec rfl (hb hbytes d11) rfl ?_
        exact Steps.refl _)
      have c4 : Steps p.tables e below (s₁.setTop (entryFrame m #[.ref b, .int (Int32.ofNat o), .ref d, .int (Int32.ofNat q), .int (Int32.ofNat len)] 7)) (Tl.setTop (mkF m 13 #[.val (.ref b), .val (.int (Int32.ofNat (o + i))), .val (.ref d), .val (.int (Int32.ofNat (q + i))), .val (.int (Int32.ofNat len)), .val (.int (Int32.ofNat i)), z] [.int (cv A (o + i))])) := c3.trans (by
        refine Xl.aget hexec hAl rfl (hA.get (i := o + i) (by omega)) rfl rfl (hb hbytes d12) ?_
        exact Steps.refl _)
      have c5 : Steps p.tables e below (s₁.setTop (entryFrame m #[.ref b, .int (Int32.ofNat o), .ref d, .int (Int32.ofNat q), .int (Int32.ofNat len)] 7)) (Tl.setTop (mkF m 15 #[.val (.ref b), .val (.int (Int32.ofNat (o + i))), .val (.ref d), .val (.int (Int32.ofNat (q + i))), .val (.int (Int32.ofNat len)), .val (.int (Int32.ofNat i)), .val (.int (cv A (o + i)))] [])) := c4.trans (by
        refine XS.istoreS Xl.here hexec rfl (hb hbytes d13) rfl rfl hz ?_
        exact Steps.refl _)
      have c6 : Steps p.tables e below (s₁.setTop (entryFrame m #[.ref b, .int (Int32.ofNat o), .ref d, .int (Int32.ofNat q), .int (Int32.ofNat len)] 7)) (Tl.setTop (mkF m 31 #[.val (.ref b), .val (.int (Int32.ofNat (o + i))), .val (.ref d), .val (.int (Int32.ofNat (q + i))), .val (.int (Int32.ofNat len)), .val (.int (Int32.ofNat i)), .val (.int (cv A (o + i)))] [.int (lo8 (cv A (o + i))), .int (Int32.ofNat (q + i)), .ref d])) := c5.trans (by
        refine XS.iload Xl.here hexec rfl (hb hbytes d15) rfl ?_
        refine sipushV Xl.here hexec rfl 255 (hb hbytes d17) (by decide) ?_
        refine XS.icmpYes Xl.here hexec rfl (pc0 := 20) rfl (hb hbytes d20) rfl (ii_le_t (hp i (by omega))) (by decide) rfl ?_
        refine XS.aloadN Xl.here hexec rfl (hb hbytes d26) rfl rfl ?_
        refine XS.iloadN Xl.here hexec rfl (hb hbytes d27) rfl ?_
        refine XS.iload Xl.here hexec rfl (hb hbytes d28) rfl ?_
        refine i2b Xl.here hexec rfl (hb hbytes d30) rfl ?_
        exact Steps.refl _)
      obtain ⟨T7, X7, p7, st7⟩ := Xl.aput hexec hBk rfl hlt rfl (fits_lo8 (cv A (o + i))) (g := (mkF m 31 #[.val (.ref b), .val (.int (Int32.ofNat (o + i))), .val (.ref d), .val (.int (Int32.ofNat (q + i))), .val (.int (Int32.ofNat len)), .val (.int (Int32.ofNat i)), .val (.int (cv A (o + i)))] [.int (lo8 (cv A (o + i))), .int (Int32.ofNat (q + i)), .ref d])) rfl (rest := []) rfl (hb hbytes d31)
      have c8 : Steps p.tables e below (s₁.setTop (entryFrame m #[.ref b, .int (Int32.ofNat o), .ref d, .int (Int32.ofNat q), .int (Int32.ofNat len)] 7)) (T7.setTop (mkF m 32 #[.val (.ref b), .val (.int (Int32.ofNat (o + i))), .val (.ref d), .val (.int (Int32.ofNat (q + i))), .val (.int (Int32.ofNat len)), .val (.int (Int32.ofNat i)), .val (.int (cv A (o + i)))] [])) := c6.trans (st7 _ (Steps.refl _))
      have c9 : Steps p.tables e below (s₁.setTop (entryFrame m #[.ref b, .int (Int32.ofNat o), .ref d, .int (Int32.ofNat q), .int (Int32.ofNat len)] 7)) (T7.setTop (mkF m 3 #[.val (.ref b), .val (.int (Int32.ofNat (o + i) + 1)), .val (.ref d), .val (.int (Int32.ofNat (q + i) + 1)), .val (.int (Int32.ofNat len)), .val (.int (Int32.ofNat i + 1)), .val (.int (cv A (o + i)))] [])) := c8.trans (by
        refine iincV X7.here hexec rfl 1 (hb hbytes d32) (by decide) rfl rfl ?_
        refine iincV X7.here hexec rfl 1 (hb hbytes d35) (by decide) rfl rfl ?_
        refine iincV X7.here hexec rfl 1 (hb hbytes d38) (by decide) rfl rfl ?_
        refine XS.goto X7.here hexec rfl (pc0 := 41) rfl (hb hbytes d41) (by decide) rfl ?_
        exact Steps.refl _)
      have c10 : Steps p.tables e below (s₁.setTop (entryFrame m #[.ref b, .int (Int32.ofNat o), .ref d, .int (Int32.ofNat q), .int (Int32.ofNat len)] 7)) (T7.setTop (mkF m 3 #[.val (.ref b), .val (.int (Int32.ofNat (o + (i + 1)))), .val (.ref d), .val (.int (Int32.ofNat (q + (i + 1)))), .val (.int (Int32.ofNat len)), .val (.int (Int32.ofNat (i + 1))), .val (.int (cv A (o + i)))] [])) := by
        have := c9
        rw [succ32, succ32, succ32] at this
        exact this
      exact ih (i + 1) (by omega) _ (Or.inr ⟨_, rfl, rfl⟩) T7 _ (by rw [copyLocs_step, ← List.append_assoc]; exact X7) (pl.trans p7) (fl.step (by omega) hlt (by simp)) c10
  obtain ⟨T9, B9, z9, X9, p9, f9, g9⟩ := loop len 0 (by omega) .unset (Or.inl rfl) s₁ B (by simpa [copyLocs] using X0) ⟨hB0.1, fun _ _ => rfl, rfl⟩ (Laid.zero _ _ _) c2
  have c11 : Steps p.tables e below (s₁.setTop (entryFrame m #[.ref b, .int (Int32.ofNat o), .ref d, .int (Int32.ofNat q), .int (Int32.ofNat len)] 7)) (T9.setTop (mkF m 46 #[.val (.ref b), .val (.int (Int32.ofNat (o + len))), .val (.ref d), .val (.int (Int32.ofNat (q + len))), .val (.int (Int32.ofNat len)), .val (.int (Int32.ofNat len)), z9] [.int (Int32.ofNat len)])) := g9.trans (by
    refine XS.iload X9.here hexec rfl (hb hbytes d3) rfl ?_
    refine XS.iload X9.here hexec rfl (hb hbytes d5) rfl ?_
    refine XS.icmpYes X9.here hexec rfl (pc0 := 7) rfl (hb hbytes d7) rfl (ii_ge_t (nlt32 (by omega) (Nat.le_refl _))) (by decide) rfl ?_
    refine XS.iload X9.here hexec rfl (hb hbytes d44) rfl ?_
    exact Steps.refl _)
  exact ⟨T9, some (.int (Int32.ofNat len)), _, _, _, X9, by simp, rfl, rfl, (fun h => by cases h), ⟨rfl, B9, p9.from hh0, f9⟩, fun fs hl => c11.trans (X9.ireturnOut hexec hret rfl (Or.inl rfl) (hb hbytes d46) hl)⟩
end Cmp5
namespace Cmp3
def yN : MethodName := ⟨"java/lang/StringUTF16", "compress", "([CII)[B"⟩
abbrev yB : ByteArray := jdk_52_method_16_code
theorem d0 : decode yB 0 = .ok (.iload_n 2, 1) := by decide +kernel
theorem d1 : decode yB 1 = .ok (.newarray .byte, 2) := by decide +kernel
theorem d3 : decode yB 3 = .ok (.astore_n 3, 1) := by decide +kernel
theorem d4 : decode yB 4 = .ok (.aload_n 0, 1) := by decide +kernel
theorem d5 : decode yB 5 = .ok (.iload_n 1, 1) := by decide +kernel
theorem d6 : decode yB 6 = .ok (.aload_n 3, 1) := by decide +kernel
theorem d7 : decode yB 7 = .ok (.iconst 0, 1) := by decide +kernel
theorem d8 : decode yB 8 = .ok (.iload_n 2, 1) := by decide +kernel
theorem d9 : decode yB 9 = .ok (.invokestatic 115, 3) := by decide +kernel
theorem d12 : decode yB 12 = .ok (.istore 4, 2) := by decide +kernel
theorem d14 : decode yB 14 = .ok (.iload 4, 2) := by decide +kernel
theorem d16 : decode yB 16 = .ok (.iload_n 2, 1) := by decide +kernel
theorem d17 : decode yB 17 = .ok (.if_icmp (.eq) 40, 3) := by decide +kernel
theorem d57 : decode yB 57 = .ok (.aload_n 3, 1) := by decide +kernel
theorem d58 : decode yB 58 = .ok (.areturn, 1) := by decide +kernel
def site : List Cond := [.arrayClass .byte, Cmp5.tab] ++ staticW U16 115 Cmp5.yN
def tab : Cond := tabOf yN yB 6 (some (.array .byte)) site
def P (b : Addr) (A : Cell) (o len : Nat) (args : Array Value) (s : State) : Prop := args = #[.ref b, .int (Int32.ofNat o), .int (Int32.ofNat len)] ∧ Ch b A s ∧ o + len ≤ A.slots.size ∧ len ≤ 536870912 ∧ ∀ i, i < len → ¬ 255 < cv A (o + i)
def E (b : Addr) (A : Cell) (o len : Nat) (r : Option Value) (s u : State) : Prop := NewArr .byte "[B" len (fun j => .int (lo8 (cv A (o + j)))) r s u ∧ u.heap.size = s.heap.size + 1
/-- no char of the range above 255: a new byte[] of their low bytes -/
theorem law (l : Launch) (b : Addr) (A : Cell) (o len : Nat) : Law l yN 3 3 1 18 yB 6 (some (.array .byte)) site (P b A o len) (E b A o len) [] 1 len := by
  refine Law.of_walk (plainFor_of_name (by decide +kernel)) (by decide +kernel) (by decide +kernel) (by decide) (fun _ _ h => by rw [h.1]; rfl) (fun _ U U' hal hh h => ⟨h.1, h.2.1.mv hal hh, h.2.2⟩) (fun r U U' V V' h1 hal h2 h => ⟨NewArr.mv r U U' V V' h1 hal h2 h.1, by rw [h1, h2]; exact h.2⟩) ?_
  intro p e s m args below meth c s₁ X0 hexec hbytes hml hret hlk hnm hown hh0 W hP
  obtain ⟨rfl, hA, l1, l2, hp⟩ := hP
  have a31 := hA.1.2.2.2
  have c1 : Steps p.tables e below (s₁.setTop (entryFrame m #[.ref b, .int (Int32.ofNat o), .int (Int32.ofNat len)] 6)) (s₁.setTop (mkF m 0 #[.val (.ref b), .val (.int (Int32.ofNat o)), .val (.int (Int32.ofNat len)), .unset, .unset, .unset] [])) := entry rfl
  have c2 : Steps p.tables e below (s₁.setTop (entryFrame m #[.ref b, .int (Int32.ofNat o), .int (Int32.ofNat len)] 6)) (s₁.setTop (mkF m 1 #[.val (.ref b), .val (.int (Int32.ofNat o)), .val (.int (Int32.ofNat len)), .unset, .unset, .unset] [.int (Int32.ofNat len)])) := c1.trans (by
    refine XS.iloadN X0.here hexec rfl (hb hbytes d0) rfl ?_
    exact Steps.refl _)
  obtain ⟨T3, B3, X3, ba3, bs3, bv3, bh3, bf3, st3⟩ := X0.anew hexec (atype := .byte) (wk W (.arrayClass .byte)) rfl (by show len * 1 ≤ _; omega) (by omega) (g := (mkF m 1 #[.val (.ref b), .val (.int (Int32.ofNat o)), .val (.int (Int32.ofNat len)), .unset, .unset, .unset] [.int (Int32.ofNat len)])) rfl (hb hbytes d1) (rest := []) rfl (Nat.le_refl _) (by show 0 + len ≤ len; omega)
  rw [hh0] at ba3 st3
  have kp3 : XT.Kept s T3 := (XT.Kept.of_eq hh0).push bh3
  have hA3 := hA.keep X3.warmed.alike (kp3 _ _ hA.1.1)
  have hne : b ≠ s.heap.size := hA.1.ne
  have c4 : Steps p.tables e below (s₁.setTop (entryFrame m #[.ref b, .int (Int32.ofNat o), .int (Int32.ofNat len)] 6)) (T3.setTop (mkF m 3 #[.val (.ref b), .val (.int (Int32.ofNat o)), .val (.int (Int32.ofNat len)), .unset, .unset, .unset] [.ref s.heap.size])) := c2.trans (st3 _ (Steps.refl _))
  have c5 : Steps p.tables e below (s₁.setTop (entryFrame m #[.ref b, .int (Int32.ofNat o), .int (Int32.ofNat len)] 6)) (T3.setTop (mkF m 9 #[.val (.ref b), .val (.int (Int32.ofNat o)), .val (.int (Int32.ofNat len)), .val (.ref s.heap.size), .unset, .unset] [.int (Int32.ofNat len), .int 0, .ref s.heap.size, .int (Int32.ofNat o), .ref b])) := c4.trans (by
    refine XS.astoreN X3.here hexec rfl (hb hbytes d3) rfl rfl rfl ?_
    refine XS.aloadN X3.here hexec rfl (hb hbytes d4) rfl rfl ?_
    refine XS.iloadN X3.here hexec rfl (hb hbytes d5) rfl ?_
    refine XS.aloadN X3.here hexec rfl (hb hbytes d6) rfl rfl ?_
    refine iconstV X3.here hexec rfl 0 (hb hbytes d7) (by decide) ?_
    refine XS.iloadN X3.here hexec rfl (hb hbytes d8) rfl ?_
    exact Steps.refl _)
  obtain ⟨v6, T6, X6, E6, g6⟩ := X3.callS hexec (Cmp5.law l b A s.heap.size B3 o 0 len) hown (wks W (staticW U16 115 Cmp5.yN)) (wk W Cmp5.tab) (W := 0) (Nat.le_of_ble_eq_true rfl) (Nat.le_of_ble_eq_true rfl) (Nat.le_refl _) (by show 0 + len + 0 ≤ len; omega) (g := (mkF m 9 #[.val (.ref b), .val (.int (Int32.ofNat o)), .val (.int (Int32.ofNat len)), .val (.ref s.heap.size), .unset, .unset] [.int (Int32.ofNat len), .int (Int32.ofNat 0), .ref s.heap.size, .int (Int32.ofNat o), .ref b])) rfl (by rw [hml]; rfl) c5 (argsL := [.ref b, .int (Int32.ofNat o), .ref s.heap.size, .int (Int32.ofNat 0), .int (Int32.ofNat len)]) (rest := []) rfl rfl (by show 2 * 0 + 0 ≤ _; decide) (hb hbytes d9) (⟨rfl, hA3, ba3, hne, l1, by rw [bs3]; simp, hp⟩)
  obtain ⟨rfl, B6, p6, f6⟩ := E6
  have c7 : Steps p.tables e below (s₁.setTop (entryFrame m #[.ref b, .int (Int32.ofNat o), .int (Int32.ofNat len)] 6)) (T6.setTop (mkF m 12 #[.val (.ref b), .val (.int (Int32.ofNat o)), .val (.int (Int32.ofNat len)), .val (.ref s.heap.size), .unset, .unset] [.int (Int32.ofNat len)])) := g6
  have c8 : Steps p.tables e below (s₁.setTop (entryFrame m #[.ref b, .int (Int32.ofNat o), .int (Int32.ofNat len)] 6)) (T6.setTop (mkF m 58 #[.val (.ref b), .val (.int (Int32.ofNat o)), .val (.int (Int32.ofNat len)), .val (.ref s.heap.size), .val (.int (Int32.ofNat len)), .unset] [.ref s.heap.size])) := c7.trans (by
    refine XS.istore X6.here hexec rfl (hb hbytes d12) rfl rfl ?_
    refine XS.iload X6.here hexec rfl (hb hbytes d14) rfl ?_
    refine XS.iloadN X6.here hexec rfl (hb hbytes d16) rfl ?_
    refine XS.icmpYes X6.here hexec rfl (pc0 := 17) rfl (hb hbytes d17) rfl (ii_eq_t rfl) (by decide) rfl ?_
    refine XS.aloadN X6.here hexec rfl (hb hbytes d57) rfl rfl ?_
    exact Steps.refl _)
  have X8 := X6.wide (L' := []) (cells' := 1) (slots' := len) (fun x hx hlt => by
    simp only [List.nil_append, copyLocs, List.mem_map, List.mem_range] at hx
    obtain ⟨i, -, rfl⟩ := hx
    exact absurd hlt (Nat.lt_irrefl _)) (Nat.le_refl _) (by omega)
  exact ⟨T6, some (.ref s.heap.size), _, _, _, X8, rfl, rfl, rfl, (fun h => by cases h), ⟨⟨rfl, B6, ba3.like (X3.warmed.alike.symm.trans X6.warmed.alike) p6.1 f6.1 f6.2.1 f6.2.2.1, f6.2.1.trans bv3, by rw [X6.warmed.alike.findClass, f6.1]; exact bf3, by rw [f6.2.2.1, bs3]; simp, fun j hj => by rw [f6.2.2.2 j, if_pos (by omega)]; rfl, kp3.put p6 (Nat.le_refl _)⟩, by rw [p6.2.2, bh3, hh0]; simp⟩, fun fs hl => c8.trans (X8.areturnOut hexec rfl hret rfl (hb hbytes d58) hl)⟩
end Cmp3
namespace CodL
def yN : MethodName := ⟨"java/lang/StringUTF16", "coderFromArrayLen", "([BI)B"⟩
abbrev yB : ByteArray := jdk_52_method_15_code
theorem d0 : decode yB 0 = .ok (.iload_n 1, 1) := by decide +kernel
theorem d1 : decode yB 1 = .ok (.aload_n 0, 1) := by decide +kernel
theorem d2 : decode yB 2 = .ok (.arraylength, 1) := by decide +kernel
theorem d3 : decode yB 3 = .ok (.isub, 1) := by decide +kernel
theorem d4 : decode yB 4 = .ok (.bipush 31, 2) := by decide +kernel
theorem d6 : decode yB 6 = .ok (.iushr, 1) := by decide +kernel
theorem d7 : decode yB 7 = .ok (.i2b, 1) := by decide +kernel
theorem d8 : decode yB 8 = .ok (.ireturn, 1) := by decide +kernel
def site : List Cond := []
def tab : Cond := tabOf yN yB 2 (some .byte) site
def P (d : Addr) (B : Cell) (args : Array Value) (s : State) : Prop := args = #[.ref d, .int (Int32.ofNat B.slots.size)] ∧ Arr .byte d B s
def E (r : Option Value) (s u : State) : Prop := XT.PureE (some (.int 0)) r s u
/-- an array as long as the number of chars: LATIN1 -/
theorem law (l : Launch) (d : Addr) (B : Cell) : Law l yN 2 2 0 0 yB 2 (some .byte) site (P d B) E [] 0 0 := by
  refine Law.of_walk (plainFor_of_name (by decide +kernel)) (by decide +kernel) (by decide +kernel) (by decide) (fun _ _ h => by rw [h.1]; rfl) (fun _ U U' hal hh h => ⟨h.1, h.2.mv hal hh⟩) (fun r U U' V V' h1 hal h2 h => XT.PureE.mv r U U' V V' h1 hal h2 h) ?_
  intro p e s m args below meth c s₁ X0 hexec hbytes hml hret hlk hnm hown hh0 W hP
  obtain ⟨rfl, hB⟩ := hP
  have hB0 := hB.mv X0.warmed.alike hh0
  have c1 : Steps p.tables e below (s₁.setTop (entryFrame m #[.ref d, .int (Int32.ofNat B.slots.size)] 2)) (s₁.setTop (mkF m 0 #[.val (.ref d), .val (.int (Int32.ofNat B.slots.size))] [])) := entry rfl
  have c2 : Steps p.tables e below (s₁.setTop (entryFrame m #[.ref d, .int (Int32.ofNat B.slots.size)] 2)) (s₁.setTop (mkF m 2 #[.val (.ref d), .val (.int (Int32.ofNat B.slots.size))] [.ref d, .int (Int32.ofNat B.slots.size)])) := c1.trans (by
    refine XS.iloadN X0.here hexec rfl (hb hbytes d0) rfl ?_
    refine XS.aloadN X0.here hexec rfl (hb hbytes d1) rfl rfl ?_
    exact Steps.refl _)
  have c3 : Steps p.tables e below (s₁.setTop (entryFrame m #[.ref d, .int (Int32.ofNat B.slots.size)] 2)) (s₁.setTop (mkF m 8 #[.val (.ref d), .val (.int (Int32.ofNat B.slots.size))] [.int (lo8 (ushr (Int32.ofNat B.slots.size - Int32.ofNat B.slots.size) 31))])) := c2.trans (by
    refine X0.alen hexec hB0 rfl rfl (hb hbytes d2) ?_
    refine XS.isub X0.here hexec rfl (hb hbytes d3) rfl ?_
    refine bipushV X0.here hexec rfl 31 (hb hbytes d4) (by decide) ?_
    refine iushr X0.here hexec rfl (hb hbytes d6) rfl ?_
    refine i2b X0.here hexec rfl (hb hbytes d7) rfl ?_
    exact Steps.refl _)
  have e0 : lo8 (ushr (Int32.ofNat B.slots.size - Int32.ofNat B.slots.size) 31) = 0 := by rw [Int32.sub_self]; decide
  rw [e0] at c3
  exact ⟨s₁, some (.int 0), _, _, _, X0, rfl, rfl, rfl, (fun h => by cases h), ⟨rfl, hh0⟩, fun fs hl => c3.trans (X0.ireturnOut hexec hret rfl (Or.inr (Or.inr (Or.inl rfl))) (hb hbytes d8) hl)⟩
end CodL
/-- the String at a is Latin-1 over a new byte[] (the heap's one new cell): the low bytes of the len chars of A from o on; every cell but a is kept -/
def Got (a : Addr) (D : Cell) (fV fC : Field) (A : Cell) (o len : Nat) (r : Option Value) (s u : State) : Prop := r = none ∧ ∃ D' V : Cell, Blank "java/lang/String" a D' u ∧ Same D D' [fV.slot, fC.slot] ∧ D'.slots[fV.slot]? = some (.ref s.heap.size) ∧ D'.slots[fC.slot]? = some (.int 0) ∧ Arr .byte s.heap.size V u ∧ V.vm = .none ∧ u.vm.findClass "[B" = some V.cls ∧ V.slots.size = len ∧ (∀ j, j < len → V.slots[j]? = some (.int (lo8 (cv A (o + j))))) ∧ (∀ (y : Addr) (c : Cell), y ≠ a → s.heap[y]? = some c → u.heap[y]? = some c) ∧ u.heap.size = s.heap.size + 1
theorem Got.mv {a : Addr} {D A : Cell} {fV fC : Field} {o len : Nat} : ∀ r (U U' V V' : State), U'.heap = U.heap → V.vm.Alike V'.vm → V'.heap = V.heap → Got a D fV fC A o len r U V → Got a D fV fC A o len r U' V' :=
  fun r U U' V V' h1 hal h2 ⟨e0, D', X, a1, a2, a3, a4, a5, a6, a7, a8, a9, a10, a11⟩ => ⟨e0, D', X, a1.mv hal h2, a2, by rw [h1]; exact a3, a4, by rw [h1]; exact a5.mv hal h2, a6, by rw [hal.findClass]; exact a7, a8, a9, by rw [h1, h2]; exact a10, by rw [h1, h2]; exact a11⟩
namespace New4
def yN : MethodName := ⟨"java/lang/String", "<init>", "([CIILjava/lang/Void;)V"⟩
abbrev yB : ByteArray := jdk_42_method_149_code
theorem d0 : decode yB 0 = .ok (.aload_n 0, 1) := by decide +kernel
theorem d1 : decode yB 1 = .ok (.invokespecial 1, 3) := by decide +kernel
theorem d4 : decode yB 4 = .ok (.iload_n 3, 1) := by decide +kernel
theorem d5 : decode yB 5 = .ok (.ifCond (.ne) 22, 3) := by decide +kernel
theorem d27 : decode yB 27 = .ok (.getstatic 38, 3) := by decide +kernel
theorem d30 : decode yB 30 = .ok (.ifCond (.eq) 28, 3) := by decide +kernel
theorem d33 : decode yB 33 = .ok (.aload_n 1, 1) := by decide +kernel
theorem d34 : decode yB 34 = .ok (.iload_n 2, 1) := by decide +kernel
theorem d35 : decode yB 35 = .ok (.iload_n 3, 1) := by decide +kernel
theorem d36 : decode yB 36 = .ok (.invokestatic 177, 3) := by decide +kernel
theorem d39 : decode yB 39 = .ok (.astore 5, 2) := by decide +kernel
theorem d41 : decode yB 41 = .ok (.aload_n 0, 1) := by decide +kernel
theorem d42 : decode yB 42 = .ok (.aload 5, 2) := by decide +kernel
theorem d44 : decode yB 44 = .ok (.iload_n 3, 1) := by decide +kernel
theorem d45 : decode yB 45 = .ok (.invokestatic 47, 3) := by decide +kernel
theorem d48 : decode yB 48 = .ok (.putfield 15, 3) := by decide +kernel
theorem d51 : decode yB 51 = .ok (.aload_n 0, 1) := by decide +kernel
theorem d52 : decode yB 52 = .ok (.aload 5, 2) := by decide +kernel
theorem d54 : decode yB 54 = .ok (.putfield 9, 3) := by decide +kernel
theorem d57 : decode yB 57 = .ok (.return_, 1) := by decide +kernel
def site : List Cond := [.fieldLink "java/lang/String" 38 "java/lang/String" "COMPACT_STRINGS" "Z", Cmp3.tab, CodL.tab, .laysFinal "java/lang/String" "java/lang/String" "value" "[B", .fieldLink "java/lang/String" 9 "java/lang/String" "value" "[B", .laysFinal "java/lang/String" "java/lang/String" "coder" "B", .fieldLink "java/lang/String" 15 "java/lang/String" "coder" "B"] ++ objW "java/lang/String" 1 ++ staticW "java/lang/String" 177 Cmp3.yN ++ staticW "java/lang/String" 47 CodL.yN
def tab : Cond := tabOf yN yB 6 none site
def P (a : Addr) (D : Cell) (fV fC : Field) (b : Addr) (A : Cell) (z : Int32) (o len : Nat) (args : Array Value) (s : State) : Prop := args = #[.ref a, .ref b, .int (Int32.ofNat o), .int (Int32.ofNat len), .null] ∧ Blank "java/lang/String" a D s ∧ Found "java/lang/String" "value" "[B" fV s ∧ Found "java/lang/String" "coder" "B" fC s ∧ Ch b A s ∧ StaticIs s "java/lang/String" "COMPACT_STRINGS" "Z" (.int z) ∧ ¬ z = 0 ∧ 0 < len ∧ o + len ≤ A.slots.size ∧ len ≤ 536870912 ∧ ∀ i, i < len → ¬ 255 < cv A (o + i)
def E (a : Addr) (D : Cell) (fV fC : Field) (A : Cell) (o len : Nat) (r : Option Value) (s u : State) : Prop := Got a D fV fC A o len r s u
/-- len > 0, no char of the range above 255: a Latin-1 String of their low bytes -/
theorem law (l : Launch) (a : Addr) (D : Cell) (fV fC : Field) (b : Addr) (A : Cell) (z : Int32) (o len : Nat) : Law l yN 5 4 2 35 yB 6 none site (P a D fV fC b A z o len) (E a D fV fC A o len) [⟨a, fC.slot⟩, ⟨a, fV.slot⟩] 1 len := by
  refine Law.of_walk (plainFor_of_name (by decide +kernel)) (by decide +kernel) (by decide +kernel) (by decide) (fun _ _ h => by rw [h.1]; rfl) (fun _ U U' hal hh h => ⟨h.1, h.2.1.mv hal hh, h.2.2.1.al hal, h.2.2.2.1.al hal, h.2.2.2.2.1.mv hal hh, h.2.2.2.2.2.1.there hal hh, h.2.2.2.2.2.2⟩) (fun r U U' V V' h1 hal h2 h => Got.mv r U U' V V' h1 hal h2 h) ?_
  intro p e s m args below meth c s₁ X0 hexec hbytes hml hret hlk hnm hown hh0 W hP
  obtain ⟨rfl, hB, f1, f2, hA, s1, hz, l0, l1, l2, hp⟩ := hP
  have a31 := hA.1.2.2.2
  have c1 : Steps p.tables e below (s₁.setTop (entryFrame m #[.ref a, .ref b, .int (Int32.ofNat o), .int (Int32.ofNat len), .null] 6)) (s₁.setTop (mkF m 0 #[.val (.ref a), .val (.ref b), .val (.int (Int32.ofNat o)), .val (.int (Int32.ofNat len)), .val .null, .unset] [])) := entry rfl
  have c2 : Steps p.tables e below (s₁.setTop (entryFrame m #[.ref a, .ref b, .int (Int32.ofNat o), .int (Int32.ofNat len), .null] 6)) (s₁.setTop (mkF m 1 #[.val (.ref a), .val (.ref b), .val (.int (Int32.ofNat o)), .val (.int (Int32.ofNat len)), .val .null, .unset] [.ref a])) := c1.trans (by
    refine XS.aloadN X0.here hexec rfl (hb hbytes d0) rfl rfl ?_
    exact Steps.refl _)
  obtain ⟨T3, X3, q3, st3⟩ := X0.oinit hexec hown (wks W (objW "java/lang/String" 1)) (g := (mkF m 1 #[.val (.ref a), .val (.ref b), .val (.int (Int32.ofNat o)), .val (.int (Int32.ofNat len)), .val .null, .unset] [.ref a])) rfl (by rw [hml]; rfl) (rest := []) rfl (hb hbytes d1) (W := 0) (by show 2 * 0 + 0 ≤ _; decide) (Nat.le_of_ble_eq_true rfl) (Nat.le_of_ble_eq_true rfl)
  have hh3 := q3.trans hh0
  have c4 : Steps p.tables e below (s₁.setTop (entryFrame m #[.ref a, .ref b, .int (Int32.ofNat o), .int (Int32.ofNat len), .null] 6)) (T3.setTop (mkF m 27 #[.val (.ref a), .val (.ref b), .val (.int (Int32.ofNat o)), .val (.int (Int32.ofNat len)), .val .null, .unset] [])) := (c2.trans (st3 _ (Steps.refl _))).trans (by
    refine XS.iloadN X3.here hexec rfl (hb hbytes d4) rfl ?_
    refine XS.ifYes X3.here hexec rfl (pc0 := 5) rfl (hb hbytes d5) rfl (i0_ne_t (nz32 (by omega) l0)) (by decide) rfl ?_
    exact Steps.refl _)
  obtain ⟨T5, X5, q5, st5⟩ := X3.sget hexec hown (wk W (.fieldLink "java/lang/String" 38 "java/lang/String" "COMPACT_STRINGS" "Z")) s1 (fun _ _ h => by rw [hh3]; exact h) (g := (mkF m 27 #[.val (.ref a), .val (.ref b), .val (.int (Int32.ofNat o)), .val (.int (Int32.ofNat len)), .val .null, .unset] [])) rfl (hb hbytes d27)
  have hh5 := q5.trans hh3
  have c6 : Steps p.tables e below (s₁.setTop (entryFrame m #[.ref a, .ref b, .int (Int32.ofNat o), .int (Int32.ofNat len), .null] 6)) (T5.setTop (mkF m 30 #[.val (.ref a), .val (.ref b), .val (.int (Int32.ofNat o)), .val (.int (Int32.ofNat len)), .val .null, .unset] [.int z])) := c4.trans (st5 _ (Steps.refl _))
  have c7 : Steps p.tables e below (s₁.setTop (entryFrame m #[.ref a, .ref b, .int (Int32.ofNat o), .int (Int32.ofNat len), .null] 6)) (T5.setTop (mkF m 36 #[.val (.ref a), .val (.ref b), .val (.int (Int32.ofNat o)), .val (.int (Int32.ofNat len)), .val .null, .unset] [.int (Int32.ofNat len), .int (Int32.ofNat o), .ref b])) := c6.trans (by
    refine XS.ifNo X5.here hexec rfl (hb hbytes d30) rfl (i0_eq_f hz) ?_
    refine XS.aloadN X5.here hexec rfl (hb hbytes d33) rfl rfl ?_
    refine XS.iloadN X5.here hexec rfl (hb hbytes d34) rfl ?_
    refine XS.iloadN X5.here hexec rfl (hb hbytes d35) rfl ?_
    exact Steps.refl _)
  obtain ⟨v8, T8, X8, E8, g8⟩ := X5.callS hexec (Cmp3.law l b A o len) hown (wks W (staticW "java/lang/String" 177 Cmp3.yN)) (wk W Cmp3.tab) (W := 0) (Nat.le_of_ble_eq_true rfl) (Nat.le_of_ble_eq_true rfl) (Nat.le_refl _) (by show 0 + len ≤ len; omega) (g := (mkF m 36 #[.val (.ref a), .val (.ref b), .val (.int (Int32.ofNat o)), .val (.int (Int32.ofNat len)), .val .null, .unset] [.int (Int32.ofNat len), .int (Int32.ofNat o), .ref b])) rfl (by rw [hml]; rfl) c7 (argsL := [.ref b, .int (Int32.ofNat o), .int (Int32.ofNat len)]) (rest := []) rfl rfl (by show 2 * 0 + 0 ≤ _; decide) (hb hbytes d36) (⟨rfl, hA.mv X5.warmed.alike hh5, l1, l2, hp⟩)
  obtain ⟨e8, z8⟩ := E8
  obtain ⟨rfl, N, n1, n2, n3, n4, n5, n6⟩ := NewArr.mv _ T5 s _ _ hh5.symm (Vm.Alike.refl _) rfl e8
  rw [hh5] at z8
  have hB1 := hB.keep X8.warmed.alike (n6 _ _ hB.1)
  have hne : s.heap.size ≠ a := (Nat.ne_of_lt (Array.getElem?_eq_some_iff.mp hB.1).1).symm
  have c9 : Steps p.tables e below (s₁.setTop (entryFrame m #[.ref a, .ref b, .int (Int32.ofNat o), .int (Int32.ofNat len), .null] 6)) (T8.setTop (mkF m 39 #[.val (.ref a), .val (.ref b), .val (.int (Int32.ofNat o)), .val (.int (Int32.ofNat len)), .val .null, .unset] [.ref s.heap.size])) := g8
  have c10 : Steps p.tables e below (s₁.setTop (entryFrame m #[.ref a, .ref b, .int (Int32.ofNat o), .int (Int32.ofNat len), .null] 6)) (T8.setTop (mkF m 45 #[.val (.ref a), .val (.ref b), .val (.int (Int32.ofNat o)), .val (.int (Int32.ofNat len)), .val .null, .val (.ref s.heap.size)] [.int (Int32.ofNat N.slots.size), .ref s.heap.size, .ref a])) := by
    have hc : Steps p.tables e below (s₁.setTop (entryFrame m #[.ref a, .ref b, .int (Int32.ofNat o), .int (Int32.ofNat len), .null] 6)) (T8.setTop (mkF m 45 #[.val (.ref a), .val (.ref b), .val (.int (Int32.ofNat o)), .val (.int (Int32.ofNat len)), .val .null, .val (.ref s.heap.size)] [.int (Int32.ofNat len), .ref s.heap.size, .ref a])) := c9.trans (by
      refine XS.astore X8.here hexec rfl (hb hbytes d39) rfl rfl rfl ?_
      refine XS.aloadN X8.here hexec rfl (hb hbytes d41) rfl rfl ?_
      refine XS.aload X8.here hexec rfl (hb hbytes d42) rfl rfl ?_
      refine XS.iloadN X8.here hexec rfl (hb hbytes d44) rfl ?_
      exact Steps.refl _)
    rw [n4]; exact hc
  obtain ⟨v11, T11, X11, E11, g11⟩ := X8.callS hexec (CodL.law l s.heap.size N) hown (wks W (staticW "java/lang/String" 47 CodL.yN)) (wk W CodL.tab) (W := 1) (Nat.le_of_ble_eq_true rfl) (Nat.le_of_ble_eq_true rfl) (Nat.le_refl _) (by show 0 + len + 0 ≤ len; omega) (g := (mkF m 45 #[.val (.ref a), .val (.ref b), .val (.int (Int32.ofNat o)), .val (.int (Int32.ofNat len)), .val .null, .val (.ref s.heap.size)] [.int (Int32.ofNat N.slots.size), .ref s.heap.size, .ref a])) rfl (by rw [hml]; rfl) c10 (argsL := [.ref s.heap.size, .int (Int32.ofNat N.slots.size)]) (rest := [.ref a]) rfl rfl (by show 2 * 0 + (1 + 0) ≤ _; decide) (hb hbytes d45) (⟨rfl, n1⟩)
  obtain ⟨rfl, q11⟩ := E11
  have hB11 := hB1.mv (X8.warmed.alike.symm.trans X11.warmed.alike) q11
  have c12 : Steps p.tables e below (s₁.setTop (entryFrame m #[.ref a, .ref b, .int (Int32.ofNat o), .int (Int32.ofNat len), .null] 6)) (T11.setTop (mkF m 48 #[.val (.ref a), .val (.ref b), .val (.int (Int32.ofNat o)), .val (.int (Int32.ofNat len)), .val .null, .val (.ref s.heap.size)] [.int 0, .ref a])) := g11
  obtain ⟨T13, X13, p13, bl13, sl13, st13⟩ := X11.finit hexec hown (wk W (.fieldLink "java/lang/String" 15 "java/lang/String" "coder" "B")) (Or.inr ⟨_, (wk W (.laysFinal "java/lang/String" "java/lang/String" "coder" "B"))⟩) (Or.inl ⟨rfl, hnm⟩) f2 (Or.inl rfl) hB11 (t := .byte) (by decide +kernel) rfl (g := (mkF m 48 #[.val (.ref a), .val (.ref b), .val (.int (Int32.ofNat o)), .val (.int (Int32.ofNat len)), .val .null, .val (.ref s.heap.size)] [.int 0, .ref a])) rfl (rest := []) rfl (hb hbytes d48)
  have c14 : Steps p.tables e below (s₁.setTop (entryFrame m #[.ref a, .ref b, .int (Int32.ofNat o), .int (Int32.ofNat len), .null] 6)) (T13.setTop (mkF m 54 #[.val (.ref a), .val (.ref b), .val (.int (Int32.ofNat o)), .val (.int (Int32.ofNat len)), .val .null, .val (.ref s.heap.size)] [.ref s.heap.size, .ref a])) := (c12.trans (st13 _ (Steps.refl _))).trans (by
    refine XS.aloadN X13.here hexec rfl (hb hbytes d51) rfl rfl ?_
    refine XS.aload X13.here hexec rfl (hb hbytes d52) rfl rfl ?_
    exact Steps.refl _)
  obtain ⟨T15, X15, p15, bl15, sl15, st15⟩ := X13.finit hexec hown (wk W (.fieldLink "java/lang/String" 9 "java/lang/String" "value" "[B")) (Or.inr ⟨_, (wk W (.laysFinal "java/lang/String" "java/lang/String" "value" "[B"))⟩) (Or.inl ⟨rfl, hnm⟩) f1 (Or.inl rfl) bl13 (t := (.array .byte)) (by decide +kernel) rfl (g := (mkF m 54 #[.val (.ref a), .val (.ref b), .val (.int (Int32.ofNat o)), .val (.int (Int32.ofNat len)), .val .null, .val (.ref s.heap.size)] [.ref s.heap.size, .ref a])) rfl (rest := []) rfl (hb hbytes d54)
  have c16 : Steps p.tables e below (s₁.setTop (entryFrame m #[.ref a, .ref b, .int (Int32.ofNat o), .int (Int32.ofNat len), .null] 6)) (T15.setTop (mkF m 57 #[.val (.ref a), .val (.ref b), .val (.int (Int32.ofNat o)), .val (.int (Int32.ofNat len)), .val .null, .val (.ref s.heap.size)] [])) := c14.trans (st15 _ (Steps.refl _))
  have ap := apart (Or.inr ⟨_, (wk W (.laysFinal "java/lang/String" "java/lang/String" "value" "[B"))⟩) (Or.inr ⟨_, (wk W (.laysFinal "java/lang/String" "java/lang/String" "coder" "B"))⟩) f1 f2 (t₁ := .array .byte) (t₂ := .byte) (by decide +kernel) (by decide +kernel) (by decide)
  have al := X8.warmed.alike.symm.trans X15.warmed.alike
  have n7 : T11.heap[s.heap.size]? = some N := by rw [q11]; exact n1.1
  exact ⟨T15, none, _, _, _, X15, by simp, rfl, by omega, (fun _ => rfl), ⟨rfl, _, N, bl15, ((Same.refl D _).set _ (by simp)).set _ (by simp), sl15, (Cell.slots_setSlot_ne _ ap).trans sl13, n1.keep al (p15.other hne (p13.other hne n7)), n2, by rw [al.findClass]; exact n3, n4, n5, fun y c h1 h2 => p15.other h1 (p13.other h1 (by rw [q11]; exact n6 y c h2)), by rw [p15.2.2, p13.2.2, q11]; exact z8⟩, fun fs hl => c16.trans (X15.returnOut hexec hret (hb hbytes d57) hl)⟩
end New4
namespace New1
def yN : MethodName := ⟨"java/lang/String", "<init>", "([C)V"⟩
abbrev yB : ByteArray := jdk_42_method_3_code
theorem d0 : decode yB 0 = .ok (.aload_n 0, 1) := by decide +kernel
theorem d1 : decode yB 1 = .ok (.aload_n 1, 1) := by decide +kernel
theorem d2 : decode yB 2 = .ok (.iconst 0, 1) := by decide +kernel
theorem d3 : decode yB 3 = .ok (.aload_n 1, 1) := by decide +kernel
theorem d4 : decode yB 4 = .ok (.arraylength, 1) := by decide +kernel
theorem d5 : decode yB 5 = .ok (.aconst_null, 1) := by decide +kernel
theorem d6 : decode yB 6 = .ok (.invokespecial 27, 3) := by decide +kernel
theorem d9 : decode yB 9 = .ok (.return_, 1) := by decide +kernel
def site : List Cond := [New4.tab] ++ initW "java/lang/String" 27 New4.yN
def tab : Cond := tabOf yN yB 2 none site
def P (a : Addr) (D : Cell) (fV fC : Field) (b : Addr) (A : Cell) (z : Int32) (args : Array Value) (s : State) : Prop := args = #[.ref a, .ref b] ∧ Blank "java/lang/String" a D s ∧ Found "java/lang/String" "value" "[B" fV s ∧ Found "java/lang/String" "coder" "B" fC s ∧ Ch b A s ∧ StaticIs s "java/lang/String" "COMPACT_STRINGS" "Z" (.int z) ∧ ¬ z = 0 ∧ 0 < A.slots.size ∧ A.slots.size ≤ 536870912 ∧ ∀ i, i < A.slots.size → ¬ 255 < cv A i
def E (a : Addr) (D : Cell) (fV fC : Field) (A : Cell) (r : Option Value) (s u : State) : Prop := Got a D fV fC A 0 A.slots.size r s u
/-- new String(chars), not empty, no char above 255: a Latin-1 String of their low bytes -/
theorem law (l : Launch) (a : Addr) (D : Cell) (fV fC : Field) (b : Addr) (A : Cell) (z : Int32) : Law l yN 2 1 3 52 yB 2 none site (P a D fV fC b A z) (E a D fV fC A) [⟨a, fC.slot⟩, ⟨a, fV.slot⟩] 1 A.slots.size := by
  refine Law.of_walk (plainFor_of_name (by decide +kernel)) (by decide +kernel) (by decide +kernel) (by decide) (fun _ _ h => by rw [h.1]; rfl) (fun _ U U' hal hh h => ⟨h.1, h.2.1.mv hal hh, h.2.2.1.al hal, h.2.2.2.1.al hal, h.2.2.2.2.1.mv hal hh, h.2.2.2.2.2.1.there hal hh, h.2.2.2.2.2.2⟩) (fun r U U' V V' h1 hal h2 h => Got.mv r U U' V V' h1 hal h2 h) ?_
  intro p e s m args below meth c s₁ X0 hexec hbytes hml hret hlk hnm hown hh0 W hP
  obtain ⟨rfl, hB, f1, f2, hA, s1, hz, l0, l2, hp⟩ := hP
  have c1 : Steps p.tables e below (s₁.setTop (entryFrame m #[.ref a, .ref b] 2)) (s₁.setTop (mkF m 0 #[.val (.ref a), .val (.ref b)] [])) := entry rfl
  have c2 : Steps p.tables e below (s₁.setTop (entryFrame m #[.ref a, .ref b] 2)) (s₁.setTop (mkF m 6 #[.val (.ref a), .val (.ref b)] [.null, .int (Int32.ofNat A.slots.size), .int 0, .ref b, .ref a])) := c1.trans (by
    refine XS.aloadN X0.here hexec rfl (hb hbytes d0) rfl rfl ?_
    refine XS.aloadN X0.here hexec rfl (hb hbytes d1) rfl rfl ?_
    refine iconstV X0.here hexec rfl 0 (hb hbytes d2) (by decide) ?_
    refine XS.aloadN X0.here hexec rfl (hb hbytes d3) rfl rfl ?_
    refine X0.alen hexec (hA.1.mv X0.warmed.alike hh0) rfl rfl (hb hbytes d4) ?_
    refine XS.aconstNull X0.here hexec rfl (hb hbytes d5) ?_
    exact Steps.refl _)
  obtain ⟨v3, T3, X3, E3, g3⟩ := X0.callN hexec (New4.law l a D fV fC b A z 0 A.slots.size) rfl hown (wks W (initW "java/lang/String" 27 New4.yN)) (W New4.tab (by simp only [site, List.mem_cons, List.mem_append, true_or, or_true])) (W := 0) (Nat.le_of_ble_eq_true rfl) (Nat.le_of_ble_eq_true rfl) (Nat.le_refl _) (by show 0 + A.slots.size ≤ A.slots.size; omega) (g := (mkF m 6 #[.val (.ref a), .val (.ref b)] [.null, .int (Int32.ofNat A.slots.size), .int (Int32.ofNat 0), .ref b, .ref a])) rfl (by rw [hml]; rfl) c2 (argsL := [.ref b, .int (Int32.ofNat 0), .int (Int32.ofNat A.slots.size), .null]) (rest := []) rfl rfl (by show 2 * 0 + 0 ≤ _; decide) (hb hbytes d6) (⟨rfl, hB.mv X0.warmed.alike hh0, f1.al X0.warmed.alike, f2.al X0.warmed.alike, hA.mv X0.warmed.alike hh0, s1.there X0.warmed.alike hh0, hz, l0, by omega, l2, fun i hi => by rw [Nat.zero_add]; exact hp i hi⟩)
  have e0 := Got.mv _ s₁ s _ _ hh0.symm (Vm.Alike.refl _) rfl E3
  obtain rfl := e0.1
  have c4 : Steps p.tables e below (s₁.setTop (entryFrame m #[.ref a, .ref b] 2)) (T3.setTop (mkF m 9 #[.val (.ref a), .val (.ref b)] [])) := g3
  exact ⟨T3, none, _, _, _, X3, by simp, rfl, by omega, (fun _ => rfl), e0, fun fs hl => c4.trans (X3.returnOut hexec hret (hb hbytes d9) hl)⟩
theorem pays {l : Launch} {R : Room} {p : Program} {e : Env} {below : List Frame} {s : State} {sargs : Array Value} {len W : Nat} (a : Addr) (D : Cell) (fV fC : Field) (b : Addr) (A : Cell) (z : Int32) (htab : tab.before sargs s = true) (hfr : 4 ≤ R.frames) (hlo : W + 65 ≤ R.locals) :
    Back l R p e below s sargs yN len W (fun A₁ a₁ => A₁.cells + 1 ≤ R.cells ∧ A₁.slots + A.slots.size ≤ R.slots ∧ P a D fV fC b A z a₁ A₁.U) (fun A₁ _ v₁ B₁ => E a D fV fC A v₁ A₁.U B₁.U ∧ B₁.locs = A₁.locs ++ [⟨a, fC.slot⟩, ⟨a, fV.slot⟩] ∧ B₁.cells = A₁.cells + 1 ∧ B₁.slots = A₁.slots + A.slots.size) :=
  (law l a D fV fC b A z).pays htab hfr (by omega)
end New1
end StrChars
namespace StrChars.Road
open Jvm Sem ClassFile Op Lib Jvm.Stand Jvm.Free Jvm.Free.XT
open Jvm.Lib.Cold (StaticIs)
abbrev ST : String := "java/lang/String"
/-- every table word that New1's law asks, flat -/
abbrev words : List Jvm.Cond := [.code New1.yN New1.yB 2 none, .initialized ST, .methodLink ST 27 New4.yN, .instanceMethod New4.yN,
  .code New4.yN New4.yB 6 none, .fieldLink ST 38 ST "COMPACT_STRINGS" "Z", .laysFinal ST ST "value" "[B", .fieldLink ST 9 ST "value" "[B", .laysFinal ST ST "coder" "B", .fieldLink ST 15 ST "coder" "B",
  .methodLink ST 1 Lib.objectInit, .instanceMethod Lib.objectInit, .code Lib.objectInit ⟨#[0xb1]⟩ 1 none, .methodLink ST 177 Cmp3.yN, .static Cmp3.yN, .methodLink ST 47 CodL.yN, .static CodL.yN,
  .code Cmp3.yN Cmp3.yB 6 (some (.array .byte)), .initialized U16, .arrayClass .byte, .methodLink U16 115 Cmp5.yN, .static Cmp5.yN, .code Cmp5.yN Cmp5.yB 7 (some .int), .code CodL.yN CodL.yB 2 (some .byte)]
theorem tab_of {a : Array Value} {s : State} (h : ∀ w ∈ words, w.before a s = true) : New1.tab.before a s = true := by
  have h5 : Cmp5.tab.before a s = true := unparts (wk h (.code Cmp5.yN Cmp5.yB 7 (some .int))) (wks h (.initialized Cmp5.yN.cls :: Cmp5.site))
  have hc : CodL.tab.before a s = true := unparts (wk h (.code CodL.yN CodL.yB 2 (some .byte))) (wks h (.initialized CodL.yN.cls :: CodL.site))
  have q5 : ∀ w ∈ Cmp5.tab :: words, w.before a s = true := fun w hw => (List.mem_cons.mp hw).elim (fun e => e ▸ h5) (h w)
  have h3 : Cmp3.tab.before a s = true := unparts (wk q5 (.code Cmp3.yN Cmp3.yB 6 (some (.array .byte)))) (wks q5 (.initialized Cmp3.yN.cls :: Cmp3.site))
  have q3 : ∀ w ∈ Cmp3.tab :: CodL.tab :: words, w.before a s = true := fun w hw => (List.mem_cons.mp hw).elim (fun e => e ▸ h3) fun hw => (List.mem_cons.mp hw).elim (fun e => e ▸ hc) (h w)
  have h4 : New4.tab.before a s = true := unparts (wk q3 (.code New4.yN New4.yB 6 none)) (wks q3 (.initialized New4.yN.cls :: New4.site))
  have q4 : ∀ w ∈ New4.tab :: words, w.before a s = true := fun w hw => (List.mem_cons.mp hw).elim (fun e => e ▸ h4) (h w)
  exact unparts (wk q4 (.code New1.yN New1.yB 2 none)) (wks q4 (.initialized New1.yN.cls :: New1.site))
/-- the words ride from the start Z to the walk's own state -/
theorem moved {Z s : State} {a0 args : Array Value} (hZ : Z.Warmed39 s.vm) (hw : ∀ d ∈ words, d.before a0 Z = true) : ∀ d ∈ words, d.before args s = true := fun d hd => by
  have q := hw d hd
  have t : ∀ d ∈ words, d = .arrayClass .byte ∨ (d.onTables && d.keepsFace) = true := by decide +kernel
  rcases t d hd with rfl | t
  · exact RoadKit.mvA hZ q
  · exact RoadKit.mv hZ q t
/-- WHAT COMES BACK, over the tables of the start Z: h the heap at the call, h' behind it -/
def Q (Z : State) (x : Addr) (A : Cell) (h : Heap) (v : Option Value) (h' : Heap) (L : List Loc) : Prop := v = none ∧ (∀ y ∈ L, y.base = x) ∧ RoadKit.Keep h h' [x] ∧ h'.size = h.size + 1 ∧ RoadKit.Exa Z h' x ST ∧ RoadKit.Fld Z h' x ST "value" "[B" (.ref h.size) ∧ RoadKit.Fld Z h' x ST "coder" "B" (.int 0) ∧
  (∃ V : Cell, RoadKit.Arr Z h' h.size V .byte ∧ V.vm = .none ∧ Z.vm.findClass "[B" = some V.cls ∧ V.slots.size = A.slots.size ∧ ∀ j, j < A.slots.size → V.slots[j]? = some (.int (lo8 (cv A j)))) ∧
  ∀ (O n d : String) (w : Value), RoadKit.Fld Z h x O n d w → RoadKit.slotOf Z O n d ≠ RoadKit.slotOf Z ST "value" "[B" → RoadKit.slotOf Z O n d ≠ RoadKit.slotOf Z ST "coder" "B" → RoadKit.Fld Z h' x O n d w
/-- **new String(chars) AT A CALL, IN THE ROAD'S FORM**: for specialBack behind newO: x the fresh String, b the char[] with the cell A -/
theorem back {p : Program} {l : Launch} {e : Env} {R : Room} {s : State} {args : Array Value} {below : List Frame} {len W : Nat} {Z : State} {a0 : Array Value} {h : Heap} (hZ : Z.Warmed39 s.vm) (hw : ∀ d ∈ words, d.before a0 Z = true) {kI : Nat} (wi : (Jvm.Cond.instantiable ST kI).before a0 Z = true)
    {x b : Addr} {A : Cell} {z : Int32} {v0 c0 : Value} (E : RoadKit.Exa Z h x ST) (V : RoadKit.Fld Z h x ST "value" "[B" v0) (C : RoadKit.Fld Z h x ST "coder" "B" c0) (K : RoadKit.Arr Z h b A .char) (hty : Typed .char A) (S : RoadKit.Sta Z h ST "COMPACT_STRINGS" "Z" (.int z)) (hz : ¬ z = 0)
    (l0 : 0 < A.slots.size) (l2 : A.slots.size ≤ 536870912) (hp : ∀ i, i < A.slots.size → ¬ 255 < cv A i) (hfr : 4 ≤ R.frames) (hlo : W + 65 ≤ R.locals) :
    Back l R p e below s args New1.yN len W (fun P a => a = #[.ref x, .ref b] ∧ P.U.heap = h ∧ P.cells + 1 ≤ R.cells ∧ P.slots + A.slots.size ≤ R.slots)
      (fun P _ v B => ∃ L, Q Z x A h v B.U.heap L ∧ B.locs = P.locs ++ L ∧ B.cells = P.cells + 1 ∧ B.slots = P.slots + A.slots.size) := by
  intro m meth c P g ig mk a X hg hsize hdg hW hn hp'
  obtain ⟨rfl, rfl, r1, r2⟩ := hp'
  have al : Z.vm.Alike P.U.vm := hZ.alike.trans X.warmed.alike
  obtain ⟨D, cfV, kV, iV, fV, hD, gV, stV, knV, obV, asV, slV⟩ := id V
  obtain ⟨D', cfC, kC, iC, fC, hD', gC, stC, -, -, asC, slC⟩ := id C
  cases hD.symm.trans hD'
  obtain ⟨D2, kD, e1, e2, e3, e4, e5⟩ := id E
  cases hD.symm.trans e1
  obtain ⟨c2, k2, i1, i2, i3, -⟩ := Cond.instantiable_spec wi
  cases e2.symm.trans i1
  cases e3.symm.trans i2
  obtain ⟨kU, u1, u2⟩ := al.2.2 _ _ e3
  have hB : Blank ST x D P.U := ⟨hD, ⟨knV, fun q hq => by rw [hq] at obV; cases obV⟩, by rw [al.findClass]; exact e2, kU, u1, by rw [u2]; exact i3, by rw [u2]; exact e5 i3⟩
  have F1 : Found ST "value" "[B" fV P.U := ⟨SBG.found_only al ⟨cfV, kV, iV, gV⟩, stV⟩
  have F2 : Found ST "coder" "B" fC P.U := ⟨SBG.found_only al ⟨cfC, kC, iC, gC⟩, stC⟩
  have hA : Ch b A P.U := ⟨⟨K.1, State.isArrayOf_alike al K.2.1, K.2.2, by omega⟩, hty⟩
  have hS : StaticIs P.U ST "COMPACT_STRINGS" "Z" (.int z) := by
    obtain ⟨cfS, iS, kS, fS, st, cS, t1, t2, t3, t4, t5, t6, t7⟩ := S
    exact StaticIs.there (s := { Z with heap := P.U.heap }) ⟨cfS, iS, kS, fS, st, cS, t1, t2, t3, t4, t5, (fun q => by rw [q] at t6; cases t6), t7⟩ al rfl
  obtain ⟨v, B, X', ⟨⟨hv, E', V', q1, q2, q3, q4, q5, q6, q7, q8, q9, q10, q11⟩, hl, hc, hs⟩, st⟩ := New1.pays x D fV fC b A z (tab_of (moved hZ hw)) hfr hlo m meth c P g ig mk _ X hg hsize hdg hW hn ⟨r1, r2, rfl, hB, F1, F2, hA, hS, hz, l0, l2, hp⟩
  have al' : Z.vm.Alike B.U.vm := hZ.alike.trans X'.warmed.alike
  have hsz : E'.slots.size = D.slots.size := by
    obtain ⟨-, -, -, kB, w1, w2, w3⟩ := q1
    obtain ⟨kB', y1, y2⟩ := al'.2.2 _ _ e3
    rw [q2.2.1] at w1
    cases w1.symm.trans y1
    rw [w3, e5 i3, y2]
  refine ⟨v, B, X', ⟨_, ⟨hv, ?_, ⟨by omega, fun y cy hy hn' => q10 y cy (by simpa using hn') hy, fun y cy hy => ?_⟩, q11, ⟨E', _, q1.1, by rw [q2.2.1]; exact e2, by rw [q2.2.1]; exact e3, by rw [q2.1]; exact obV, fun _ => by rw [hsz]; exact e5 i3⟩,
    ⟨E', cfV, kV, iV, fV, q1.1, gV, stV, by rw [q2.1]; exact knV, by rw [q2.1]; exact obV, by rw [q2.2.1]; exact asV, q3⟩, ⟨E', cfC, kC, iC, fC, q1.1, gC, stC, by rw [q2.1]; exact knV, by rw [q2.1]; exact obV, by rw [q2.2.1]; exact asC, q4⟩,
    ⟨V', ⟨q5.1, State.isArrayOf_alike al'.symm q5.2.1, q5.2.2.1⟩, q6, by rw [← al'.findClass]; exact q7, q8, fun j hj => by have := q9 j hj; rwa [Nat.zero_add] at this⟩, fun O n d w F n1 n2 => ?_⟩, hl, hc, hs⟩, st⟩
  · intro y hy
    simp only [List.mem_cons, List.not_mem_nil, or_false] at hy
    rcases hy with rfl | rfl <;> rfl
  · by_cases q : y = x
    · subst q
      cases hD.symm.trans hy
      exact ⟨E', q1.1, q2.2.1, q2.1, hsz⟩
    · exact ⟨cy, q10 y cy q hy, rfl, rfl, rfl⟩
  · obtain ⟨D3, cf, k, i, f, g1, g2, g3, g4, g5, g6, g7⟩ := F
    cases hD.symm.trans g1
    simp only [RoadKit.slotOf, g2, gV, gC, Option.map_some, Option.getD_some] at n1 n2
    exact ⟨E', cf, k, i, f, q1.1, g2, g3, by rw [q2.1]; exact g4, by rw [q2.1]; exact g5, by rw [q2.2.1]; exact g6, by rw [q2.2.2 f.slot (by simp [n1, n2])]; exact g7⟩
end StrChars.Road
namespace StrChars.Road
open Jvm Sem ClassFile Op Lib Jvm.Stand Jvm.Free Jvm.Free.XT
/-- WHAT COMES BACK, the byte[] as a list of values -/
def QA (Z : State) (x : Addr) (zn : Int32) (cs : List Int32) (h : Heap) (v : Option Value) (h' : Heap) (L : List Loc) : Prop := v = none ∧ (∀ y ∈ L, y.base = x) ∧ RoadKit.Keep h h' [x] ∧ h'.size = h.size + 1 ∧ RoadKit.Exa Z h' x ST ∧ RoadKit.Fld Z h' x ST "value" "[B" (.ref h.size) ∧ RoadKit.Fld Z h' x ST "coder" "B" (.int 0) ∧
  (∃ kb, Z.vm.findClass "[B" = some kb ∧ RoadKit.Arv Z h' h.size kb .byte zn (cs.map fun c => .int (lo8 c)) (.int 0)) ∧
  ∀ (O n d : String) (w : Value), RoadKit.Fld Z h x O n d w → RoadKit.slotOf Z O n d ≠ RoadKit.slotOf Z ST "value" "[B" → RoadKit.slotOf Z O n d ≠ RoadKit.slotOf Z ST "coder" "B" → RoadKit.Fld Z h' x O n d w
/-- **new String(chars) AT A CALL, THE ARRAYS AS LISTS**: the char[] at b holds cs, not empty, no char above 255 -/
theorem backArv {p : Program} {l : Launch} {e : Env} {R : Room} {s : State} {args : Array Value} {below : List Frame} {len W : Nat} {Z : State} {a0 : Array Value} {h : Heap} (hZ : Z.Warmed39 s.vm) (hw : ∀ d ∈ words, d.before a0 Z = true) {kI : Nat} (wi : (Jvm.Cond.instantiable ST kI).before a0 Z = true)
    {x b : Addr} {k : ClassId} {zn z : Int32} {cs : List Int32} {dv v0 c0 : Value} (E : RoadKit.Exa Z h x ST) (V : RoadKit.Fld Z h x ST "value" "[B" v0) (C : RoadKit.Fld Z h x ST "coder" "B" c0) (K : RoadKit.Arv Z h b k .char zn (cs.map Value.int) dv) (S : RoadKit.Sta Z h ST "COMPACT_STRINGS" "Z" (.int z)) (hz : ¬ z = 0)
    (hlen : zn.toNatClampNeg = cs.length) (h0 : 0 < cs.length) (hbig : cs.length ≤ 536870912) (hall : ∀ c ∈ cs, ¬ 255 < c) (hfr : 4 ≤ R.frames) (hlo : W + 65 ≤ R.locals) :
    Back l R p e below s args New1.yN len W (fun P a => a = #[.ref x, .ref b] ∧ P.U.heap = h ∧ P.cells + 1 ≤ R.cells ∧ P.slots + cs.length ≤ R.slots)
      (fun P _ v B => ∃ L, QA Z x zn cs h v B.U.heap L ∧ B.locs = P.locs ++ L ∧ B.cells = P.cells + 1 ∧ B.slots = P.slots + cs.length) := by
  obtain ⟨A, K1, K2, K3, K4, K5, K6⟩ := K
  have e : A.slots.size = cs.length := K3.trans hlen
  have hat : ∀ (i : Nat) (hi : i < cs.length), A.slots[i]? = some (.int cs[i]) := fun i hi => by rw [K5 i (by omega)]; simp [List.getD_eq_getElem?_getD, hi]
  have hcv : ∀ (i : Nat) (hi : i < cs.length), cv A i = cs[i] := fun i hi => by unfold cv; rw [hat i hi]
  have hty : Typed .char A := fun i v hv => by
    have hi : i < A.slots.size := (Array.getElem?_eq_some_iff.mp hv).1
    have q := K5 i hi
    rw [hv] at q
    rw [Option.some.inj q]
    exact K6 i hi
  refine Back.mono (back hZ hw wi E V C K1 hty S hz (by omega) (by omega) (fun i hi => by rw [hcv i (by omega)]; exact hall _ (List.getElem_mem _)) hfr hlo) (fun P a hp => ⟨hp.1, hp.2.1, hp.2.2.1, by rw [e]; exact hp.2.2.2⟩) (fun P a v B hp hq => ?_)
  obtain ⟨L, ⟨q1, q2, q3, q4, q5, q6, q7, ⟨V', v1, v2, v3, v4, v5⟩, q9⟩, hl, hc, hs⟩ := hq
  refine ⟨L, ⟨q1, q2, q3, q4, q5, q6, q7, ⟨V'.cls, v3, V', v1, rfl, by rw [v4, e, hlen], K4, fun i hi => ?_, fun i hi => ?_⟩, q9⟩, hl, hc, by rw [hs, e]⟩
  · have hi' : i < cs.length := by omega
    rw [v5 i (by omega), hcv i hi']; simp [List.getD_eq_getElem?_getD, hi']
  · have hi' : i < cs.length := by omega
    simp only [List.getD_eq_getElem?_getD, List.getElem?_map, List.getElem?_eq_getElem hi', Option.map_some, Option.getD_some]
    exact fits_lo8 _
end StrChars.Road
namespace StrChars.Road
open Jvm Sem ClassFile Op Lib Jvm.Stand Jvm.Free Jvm.Free.XT
/-- WHAT COMES BACK, in the writer's own shape -/
def QV (Z : State) (x : Addr) (N : Int32) (bs : List Int32) (h : Heap) (n0 : Nat) (v : Option Value) (h' : Heap) (L : List Loc) : Prop := v = none ∧ RoadKit.Fr n0 L ∧ RoadKit.Keep h h' [x] ∧ RoadKit.Exa Z h' x ST ∧ RoadKit.Fld Z h' x ST "coder" "B" (.int 0) ∧
  ∃ (t : Addr) (kb : ClassId), n0 ≤ t ∧ h.size ≤ t ∧ ¬ t = x ∧ RoadKit.Fld Z h' x ST "value" "[B" (.ref t) ∧ RoadKit.Arv Z h' t kb .byte N (bs.map Value.int) (.int 0)
/-- **new String(chars) AT A CALL, FOR THE WRITER**: a char[] of n known ints, each 0 to 255 -/
theorem backV {p : Program} {l : Launch} {e : Env} {R : Room} {s : State} {args : Array Value} {below : List Frame} {len W : Nat} {Z : State} {a0 : Array Value} {h : Heap} (hZ : Z.Warmed39 s.vm) (hw : ∀ d ∈ words, d.before a0 Z = true) {kI : Nat} (wi : (Jvm.Cond.instantiable ST kI).before a0 Z = true)
    {x b : Addr} {kC : ClassId} {cs bs : List Int32} {d v0 c0 : Value} {z N : Int32} {n n0 : Nat} (hx0 : n0 ≤ x) (hh0 : n0 ≤ h.size) (E : RoadKit.Exa Z h x ST) (V : RoadKit.Fld Z h x ST "value" "[B" v0) (C : RoadKit.Fld Z h x ST "coder" "B" c0) (K : RoadKit.Arv Z h b kC .char N (cs.map Value.int) d) (S : RoadKit.Sta Z h ST "COMPACT_STRINGS" "Z" (.int z)) (hz : ¬ z = 0)
    (hn : cs.length = n) (hN : N = Int32.ofNat n) (l0 : 0 < n) (l2 : n ≤ 4000) (hp : ∀ c ∈ cs, ¬ c < 0 ∧ ¬ (255 : Int32) < c) (hb : bs = cs.map (fun c => c.toInt8.toInt32)) (hfr : 4 ≤ R.frames) (hlo : W + 65 ≤ R.locals) :
    Back l R p e below s args (⟨"java/lang/String", "<init>", "([C)V"⟩ : MethodName) len W (fun P a => a = #[.ref x, .ref b] ∧ P.U.heap = h ∧ P.cells + 1 ≤ R.cells ∧ P.slots + n ≤ R.slots)
      (fun P _ v B => ∃ L, QV Z x N bs h n0 v B.U.heap L ∧ B.locs = P.locs ++ L ∧ B.cells = P.cells + 1 ∧ B.slots = P.slots + n) := by
  subst hn hN hb
  refine Back.mono (backArv hZ hw wi E V C K S hz (n32 (by omega)) l0 (by omega) (fun c hc => (hp c hc).2) hfr hlo) (fun P a hp => hp) (fun P a v B hp hq => ?_)
  obtain ⟨L, ⟨q1, q2, q3, q4, q5, q6, q7, ⟨kb, v1, v2⟩, q9⟩, hl, hc, hs⟩ := hq
  exact ⟨L, ⟨q1, fun y hy => by rw [q2 y hy]; exact hx0, q3, q5, q7, h.size, kb, hh0, Nat.le_refl _, Nat.ne_of_gt E.lt, q6, by rw [List.map_map]; exact v2⟩, hl, hc, hs⟩
end StrChars.Road
end Jvm.Pilot.@@N@@
namespace Jvm.Pilot.@@N@@
open Jvm Jvm.ClassFile Sem Op Lib Jvm.Free Jvm.Stand Jvm.LawKit Jvm.RoadKit Bundle Jvm.Pilot.@@N@@.Jvm.D
/-- from the state S the run comes to an end that meets F -/
def own_Go (tb : Tables) (e : Env) (below : List Frame) (F : State → Outcome → Prop) (S : State) : Prop := ∃ s₂ o, Steps tb e below S s₂ ∧ F s₂ o
/-- the end: it returned what Q says, over the heap that Q says -/
def own_Fin (below : List Frame) (s : State) (Q : Option Value → Heap → List Loc → Prop) (k n : Nat) : State → Outcome → Prop := fun s₂ o => s₂.status = .running ∧ Ended s₂ below o ∧ ∃ v L, o = .returned v ∧ Q v s₂.heap L ∧ FrameEnd s o s₂ L k n
theorem own_go {tb : Tables} {e : Env} {below : List Frame} {F : State → Outcome → Prop} {S S' : State} (h : ∀ t, Steps tb e below S' t → Steps tb e below S t) (k : own_Go tb e below F S') : own_Go tb e below F S := by
  obtain ⟨t, o, h1, h2⟩ := k
  exact ⟨t, o, h t h1, h2⟩
theorem own_via {tb : Tables} {e : Env} {below : List Frame} {F : State → Outcome → Prop} {S S' : State} (h : Steps tb e below S S') (k : own_Go tb e below F S') : own_Go tb e below F S := by
  obtain ⟨t, o, h1, h2⟩ := k
  exact ⟨t, o, h.trans h1, h2⟩
section OwnRet
variable {p : Program} {l : Launch} {e : Env} {R : Room} {s : State} {m : MethodId} {args : Array Value} {below : List Frame} {meth : Method} {c : Code} {T : State} {locs : List Loc} {cells slots : Nat} {Q : Option Value → Heap → List Loc → Prop} {K N : Nat}
theorem own_retN (X : Stand p l e R s m args below meth c T locs cells slots) (hlocks : meth.locks = false) (hx : p.tables.exec = Jvm.exec) {pc : Nat} {Ls : Array Slot} {z : Int32} {rest : List Value} {t : FieldType} (hret : meth.sig.returnType = some t) (ht : t = .boolean ∨ t = .byte ∨ t = .char ∨ t = .short) (hd : decode c.code pc = .ok (.ireturn, 1)) (hQ : Q (some (.int (nar t z))) T.heap locs) (hk : cells ≤ K) (hn : slots ≤ N) :
    own_Go p.tables e below (own_Fin below s Q K N) (T.setTop (mkF m pc Ls (.int z :: rest))) := by
  obtain ⟨fs, hr, hrun, hended, hW, hsame⟩ := X.leave (v := some (.int (nar t z))) (fun h => by rw [hret] at h; cases h) hlocks
  exact ⟨_, _, retN X hx hret ht hd hr, hrun, hended, _, _, rfl, hQ, ⟨_, rfl⟩, hW, hsame.mono hk hn⟩
theorem own_retI (X : Stand p l e R s m args below meth c T locs cells slots) (hlocks : meth.locks = false) (hx : p.tables.exec = Jvm.exec) {pc : Nat} {Ls : Array Slot} {z : Int32} {rest : List Value} (hret : meth.sig.returnType = some .int) (hd : decode c.code pc = .ok (.ireturn, 1)) (hQ : Q (some (.int z)) T.heap locs) (hk : cells ≤ K) (hn : slots ≤ N) :
    own_Go p.tables e below (own_Fin below s Q K N) (T.setTop (mkF m pc Ls (.int z :: rest))) := by
  obtain ⟨fs, hr, hrun, hended, hW, hsame⟩ := X.leave (v := some (.int z)) (fun h => by rw [hret] at h; cases h) hlocks
  exact ⟨_, _, retOut X hx (i := .ireturn) hret rfl (Or.inl ⟨rfl, Or.inl rfl, _, rfl⟩) hd hr, hrun, hended, _, _, rfl, hQ, ⟨_, rfl⟩, hW, hsame.mono hk hn⟩
theorem own_retJ (X : Stand p l e R s m args below meth c T locs cells slots) (hlocks : meth.locks = false) (hx : p.tables.exec = Jvm.exec) {pc : Nat} {Ls : Array Slot} {z : Int64} {rest : List Value} (hret : meth.sig.returnType = some .long) (hd : decode c.code pc = .ok (.lreturn, 1)) (hQ : Q (some (.long z)) T.heap locs) (hk : cells ≤ K) (hn : slots ≤ N) :
    own_Go p.tables e below (own_Fin below s Q K N) (T.setTop (mkF m pc Ls (.long z :: rest))) := by
  obtain ⟨fs, hr, hrun, hended, hW, hsame⟩ := X.leave (v := some (.long z)) (fun h => by rw [hret] at h; cases h) hlocks
  exact ⟨_, _, retOut X hx (i := .lreturn) hret rfl (Or.inr (Or.inl ⟨rfl, rfl, _, rfl⟩)) hd hr, hrun, hended, _, _, rfl, hQ, ⟨_, rfl⟩, hW, hsame.mono hk hn⟩
theorem own_retA (X : Stand p l e R s m args below meth c T locs cells slots) (hlocks : meth.locks = false) (hx : p.tables.exec = Jvm.exec) {pc : Nat} {Ls : Array Slot} {w : Value} {rest : List Value} {t : FieldType} (hret : meth.sig.returnType = some t) (ht : t.isReference = true) (hn' : narrow t w = w) (hw : w.isRef = true) (hd : decode c.code pc = .ok (.areturn, 1)) (hQ : Q (some w) T.heap locs) (hk : cells ≤ K) (hn : slots ≤ N) :
    own_Go p.tables e below (own_Fin below s Q K N) (T.setTop (mkF m pc Ls (w :: rest))) := by
  obtain ⟨fs, hr, hrun, hended, hW, hsame⟩ := X.leave (v := some w) (fun h => by rw [hret] at h; cases h) hlocks
  exact ⟨_, _, retOut X hx (i := .areturn) hret hn' (Or.inr (Or.inr (Or.inr (Or.inr ⟨rfl, ht, hw⟩)))) hd hr, hrun, hended, _, _, rfl, hQ, ⟨_, rfl⟩, hW, hsame.mono hk hn⟩
theorem own_ret0 (X : Stand p l e R s m args below meth c T locs cells slots) (hlocks : meth.locks = false) (hx : p.tables.exec = Jvm.exec) {pc : Nat} {Ls : Array Slot} (hret : meth.sig.returnType = none) (hd : decode c.code pc = .ok (.return_, 1)) (hQ : Q none T.heap locs) (hk : cells ≤ K) (hn : slots ≤ N) :
    own_Go p.tables e below (own_Fin below s Q K N) (T.setTop (mkF m pc Ls [])) := by
  obtain ⟨fs, hr, hrun, hended, hW, hsame⟩ := X.leave (v := none) (fun _ => rfl) hlocks
  exact ⟨_, _, X.returnOut hx hret hd hr, hrun, hended, _, _, rfl, hQ, ⟨_, rfl⟩, hW, hsame.mono hk hn⟩
/-- the end where String constants may have been made meanwhile -/
def own_FinW (below : List Frame) (s : State) (Q : Option Value → Heap → List Loc → Prop) (k n : Nat) : State → Outcome → Prop := fun s₂ o => s₂.status = .running ∧ Ended s₂ below o ∧ ∃ v L, o = .returned v ∧ Q v s₂.heap L ∧ ReturnedEndW s o s₂ L k n
theorem own_more {s t : State} {o : Outcome} {L : List Loc} {k n K N : Nat} (h : ReturnedEndW s o t L k n) (hk : k ≤ K) (hn : n ≤ N) : ReturnedEndW s o t L K N := ⟨h.1, h.2.1, h.2.2.1, h.2.2.2.mono hk hn⟩
variable {vm₁ : Vm} {n₁ : Nat}
theorem own_retNW (X : Stand p l e R (s.setVm vm₁) m args below meth c T locs cells slots) (hS : s.Since vm₁ n₁) (hn₁ : n₁ ≤ T.heap.size) (hlocks : meth.locks = false) (hx : p.tables.exec = Jvm.exec) {pc : Nat} {Ls : Array Slot} {z : Int32} {rest : List Value} {t : FieldType} (hret : meth.sig.returnType = some t) (ht : t = .boolean ∨ t = .byte ∨ t = .char ∨ t = .short) (hd : decode c.code pc = .ok (.ireturn, 1)) (hQ : Q (some (.int (nar t z))) T.heap locs) (hk : cells ≤ K) (hn : slots ≤ N) :
    own_Go p.tables e below (own_FinW below s Q K N) (T.setTop (mkF m pc Ls (.int z :: rest))) := by
  obtain ⟨fs, hr, hrun, hended, hE⟩ := X.leaveW hS hn₁ (v := some (.int (nar t z))) (fun h => by rw [hret] at h; cases h) hlocks
  exact ⟨_, _, retN X hx hret ht hd hr, hrun, hended, _, _, rfl, hQ, own_more hE hk hn⟩
theorem own_retAW (X : Stand p l e R (s.setVm vm₁) m args below meth c T locs cells slots) (hS : s.Since vm₁ n₁) (hn₁ : n₁ ≤ T.heap.size) (hlocks : meth.locks = false) (hx : p.tables.exec = Jvm.exec) {pc : Nat} {Ls : Array Slot} {w : Value} {rest : List Value} {t : FieldType} (hret : meth.sig.returnType = some t) (ht : t.isReference = true) (hn' : narrow t w = w) (hw : w.isRef = true) (hd : decode c.code pc = .ok (.areturn, 1)) (hQ : Q (some w) T.heap locs) (hk : cells ≤ K) (hn : slots ≤ N) :
    own_Go p.tables e below (own_FinW below s Q K N) (T.setTop (mkF m pc Ls (w :: rest))) := by
  obtain ⟨fs, hr, hrun, hended, hE⟩ := X.leaveW hS hn₁ (v := some w) (fun h => by rw [hret] at h; cases h) hlocks
  exact ⟨_, _, retOut X hx (i := .areturn) hret hn' (Or.inr (Or.inr (Or.inr (Or.inr ⟨rfl, ht, hw⟩)))) hd hr, hrun, hended, _, _, rfl, hQ, own_more hE hk hn⟩
theorem own_ret0W (X : Stand p l e R (s.setVm vm₁) m args below meth c T locs cells slots) (hS : s.Since vm₁ n₁) (hn₁ : n₁ ≤ T.heap.size) (hlocks : meth.locks = false) (hx : p.tables.exec = Jvm.exec) {pc : Nat} {Ls : Array Slot} (hret : meth.sig.returnType = none) (hd : decode c.code pc = .ok (.return_, 1)) (hQ : Q none T.heap locs) (hk : cells ≤ K) (hn : slots ≤ N) :
    own_Go p.tables e below (own_FinW below s Q K N) (T.setTop (mkF m pc Ls [])) := by
  obtain ⟨fs, hr, hrun, hended, hE⟩ := X.leaveW hS hn₁ (v := none) (fun _ => rfl) hlocks
  exact ⟨_, _, X.returnOut hx hret hd hr, hrun, hended, _, _, rfl, hQ, own_more hE hk hn⟩
end OwnRet
section OwnTidy
variable {p : Program} {l : Launch} {e : Env} {R : Room} {s : State} {m : MethodId} {args : Array Value} {below : List Frame} {meth : Method} {c : Code} {T : State} {locs : List Loc} {cells slots : Nat} {Q : Option Value → Heap → List Loc → Prop} {kc ks c' n' : Nat} {g : JFrame} {rest : List Value}
/-- behind a call: the places, cells and slots in plain figures -/
theorem own_tidyV (X : Stand p l e R s m args below meth c T locs cells slots) {s₀ : State} (h : ∃ (v : Option Value) (vm₁ : Vm) (B : Pt), s.WarmedH vm₁ ∧ Stand p l e R s m args below meth c B.U B.locs B.cells B.slots ∧ (∃ L, Q v B.U.heap L ∧ B.locs = locs ++ L ∧ B.cells = cells + kc ∧ B.slots = slots + ks) ∧ Steps p.tables e below s₀ (B.U.setTop { g with pc := g.pc + 3, stack := v.toList ++ rest })) (hc : cells + kc = c') (hs : slots + ks = n') :
    ∃ (v : Option Value) (T' : State) (L : List Loc), Stand p l e R s m args below meth c T' (locs ++ L) c' n' ∧ Q v T'.heap L ∧ Steps p.tables e below s₀ (T'.setTop { g with pc := g.pc + 3, stack := v.toList ++ rest }) := by
  obtain ⟨v, vm₁, ⟨U, L0, k0, n0⟩, -, X', ⟨L, hQ, h1, h2, h3⟩, st⟩ := h
  dsimp only [Pt.U, Pt.locs, Pt.cells, Pt.slots] at X' hQ h1 h2 h3 st
  subst h1 h2 h3 hc hs
  exact ⟨v, U, L, X', hQ, st⟩
theorem own_tidyS (X : Stand p l e R s m args below meth c T locs cells slots) {s₀ : State} (h : ∃ (v : Option Value) (vm₁ : Vm) (B : Pt), s.WarmedH vm₁ ∧ Stand p l e R s m args below meth c B.U B.locs B.cells B.slots ∧ (∃ L, Q v B.U.heap L ∧ B.locs = locs ++ L ∧ B.cells = cells + kc ∧ B.slots = slots + ks) ∧ ∀ target, Steps p.tables e below (B.U.setTop { g with pc := g.pc + 3, stack := v.toList ++ rest }) target → Steps p.tables e below s₀ target) (hc : cells + kc = c') (hs : slots + ks = n') :
    ∃ (v : Option Value) (T' : State) (L : List Loc), Stand p l e R s m args below meth c T' (locs ++ L) c' n' ∧ Q v T'.heap L ∧ ∀ target, Steps p.tables e below (T'.setTop { g with pc := g.pc + 3, stack := v.toList ++ rest }) target → Steps p.tables e below s₀ target := by
  obtain ⟨v, vm₁, ⟨U, L0, k0, n0⟩, -, X', ⟨L, hQ, h1, h2, h3⟩, st⟩ := h
  dsimp only [Pt.U, Pt.locs, Pt.cells, Pt.slots] at X' hQ h1 h2 h3 st
  subst h1 h2 h3 hc hs
  exact ⟨v, U, L, X', hQ, st⟩
end OwnTidy
theorem own_val {x y : Int32} (h : y = x) : some (Value.int x) = some (Value.int y) := by rw [h]
theorem own_valJ {x y : Int64} (h : y = x) : some (Value.long x) = some (Value.long y) := by rw [h]
theorem own_valV {x y : Value} (h : y = x) : some x = some y := by rw [h]
theorem own_valR {x y : Addr} (h : y = x) : some (Value.ref x) = some (Value.ref y) := by rw [h]
theorem own_catR (a : Addr) : (Value.ref a).category = 1 := rfl
theorem own_cat {v : Value} (h : v.isRef = true) : v.category = 1 := by rcases ref_cases h with rfl | ⟨z, rfl⟩ <;> rfl
theorem own_narR {v : Value} {C : String} (h : v.isRef = true) : narrow (.object C) v = v := by rcases ref_cases h with rfl | ⟨z, rfl⟩ <;> rfl
theorem own_fitR {v : Value} {C : String} (h : v.isRef = true) : fits (.object C) v = true := by rcases ref_cases h with rfl | ⟨z, rfl⟩ <;> rfl
theorem own_narA {v : Value} {t : FieldType} (h : v.isRef = true) : narrow (.array t) v = v := by rcases ref_cases h with rfl | ⟨z, rfl⟩ <;> rfl
theorem own_fitA {v : Value} {t : FieldType} (h : v.isRef = true) : fits (.array t) v = true := by rcases ref_cases h with rfl | ⟨z, rfl⟩ <;> rfl
theorem own_dne {p : Prop} (h : p) : ¬ ¬ p := fun q => q h
theorem own_chars (x : Int32) : ¬ nar .char ((x &&& (255 : Int32)).toUInt32.toUInt16.toUInt32.toInt32) < 0 ∧ ¬ (255 : Int32) < nar .char ((x &&& (255 : Int32)).toUInt32.toUInt16.toUInt32.toInt32) := by
  have e : nar .char ((x &&& (255 : Int32)).toUInt32.toUInt16.toUInt32.toInt32) = x &&& 255 := by
    show ((x &&& (255 : Int32)).toUInt32.toUInt16.toUInt32.toInt32).toUInt32.toUInt16.toUInt32.toInt32 = _
    rw [i2c_mask, i2c_mask]
  rw [e]
  have h := c_and x 255 (by decide)
  have e0 : (0 : Int32).toInt = 0 := rfl
  have e2 : (255 : Int32).toInt = 255 := rfl
  rw [Int32.lt_iff_toInt_lt, Int32.lt_iff_toInt_lt]
  omega
theorem own_words : ∀ d ∈ StrChars.Road.words, d ∈ tables_1 := by decide +kernel
theorem d1_0 : decode method_2_code 0 = .ok (.iload_n 2, 1) := by decide +kernel
theorem d1_1 : decode method_2_code 1 = .ok (.iload_n 3, 1) := by decide +kernel
theorem d1_2 : decode method_2_code 2 = .ok (.iushr, 1) := by decide +kernel
theorem d1_3 : decode method_2_code 3 = .ok (.iconst 1, 1) := by decide +kernel
theorem d1_4 : decode method_2_code 4 = .ok (.iand, 1) := by decide +kernel
theorem d1_5 : decode method_2_code 5 = .ok (.ifCond .eq 5, 3) := by decide +kernel
theorem d1_8 : decode method_2_code 8 = .ok (.aconst_null, 1) := by decide +kernel
theorem d1_9 : decode method_2_code 9 = .ok (.areturn, 1) := by decide +kernel
theorem d1_10 : decode method_2_code 10 = .ok (.iconst 1, 1) := by decide +kernel
theorem d1_11 : decode method_2_code 11 = .ok (.newarray .char, 2) := by decide +kernel
theorem d1_13 : decode method_2_code 13 = .ok (.astore 4, 2) := by decide +kernel
theorem d1_15 : decode method_2_code 15 = .ok (.aload 4, 2) := by decide +kernel
theorem d1_17 : decode method_2_code 17 = .ok (.iconst 0, 1) := by decide +kernel
theorem d1_18 : decode method_2_code 18 = .ok (.iload_n 0, 1) := by decide +kernel
theorem d1_19 : decode method_2_code 19 = .ok (.iload_n 1, 1) := by decide +kernel
theorem d1_20 : decode method_2_code 20 = .ok (.iushr, 1) := by decide +kernel
theorem d1_21 : decode method_2_code 21 = .ok (.sipush 255, 3) := by decide +kernel
theorem d1_24 : decode method_2_code 24 = .ok (.iand, 1) := by decide +kernel
theorem d1_25 : decode method_2_code 25 = .ok (.i2c, 1) := by decide +kernel
theorem d1_26 : decode method_2_code 26 = .ok (.castore, 1) := by decide +kernel
theorem d1_27 : decode method_2_code 27 = .ok (.new 7, 3) := by decide +kernel
theorem d1_30 : decode method_2_code 30 = .ok (.dup, 1) := by decide +kernel
theorem d1_31 : decode method_2_code 31 = .ok (.aload 4, 2) := by decide +kernel
theorem d1_33 : decode method_2_code 33 = .ok (.invokespecial 9, 3) := by decide +kernel
theorem d1_36 : decode method_2_code 36 = .ok (.areturn, 1) := by decide +kernel
theorem pn_1 : plainName "com/example/attesta/attesta/contract/MalattiaWithDataFinePinLaw" = true := by first | (simp [plainName, overriddenIn]; done) | decide +kernel
theorem pd_1 : parseMethodDescriptor "([C)V" = some ⟨[(.array .char)], none⟩ := by decide +kernel
theorem ef_1 (m : MethodId) (p1 : Int32) (p2 : Int32) (p3 : Int32) (p4 : Int32) : entryFrame m #[(.int p1), (.int p2), (.int p3), (.int p4)] 5 = mkF m 0 #[.val (.int p1), .val (.int p2), .val (.int p3), .val (.int p4), .unset] [] := by first | (simp [entryFrame, mkF, argsToLocals, Value.category]; done) | rfl
def Q1 (Z : State) (p1 : Int32) (p2 : Int32) (p3 : Int32) (p4 : Int32) (csz : Int32) (h0 : Heap) (n0 : Nat) (v : Option Value) (h : Heap) (L : List Loc) : Prop := (∃ w : Value, v = some w ∧ w.isRef = true) ∧ Fr n0 L ∧ Keep h0 h []
set_option maxRecDepth 65536 in
set_option maxHeartbeats 40000000 in
theorem rm1 (l : Launch) (Z : State) (a0 : Array Value) (hw : ∀ d ∈ tables_1, d.before a0 Z = true) (ws : List Jvm.Cond) (p1 : Int32) (p2 : Int32) (p3 : Int32) (p4 : Int32) (csz : Int32) (h0 : Heap) (n0 : Nat) (Z0 : n0 ≤ h0.size) (S_CS : Sta Z Z.heap "java/lang/String" "COMPACT_STRINGS" "Z" (.int csz)) (hcs : ¬ csz = 0) (O0 : Old Z n0 h0) :
    MetFree l (⟨"com/example/attesta/attesta/contract/MalattiaWithDataFinePinLaw", "mk", "(IIII)Ljava/lang/String;"⟩ : MethodName) (head1 (Jvm.Cond.code (⟨"com/example/attesta/attesta/contract/MalattiaWithDataFinePinLaw", "mk", "(IIII)Ljava/lang/String;"⟩ : MethodName) method_2_code 5 (some (.object "java/lang/String")) :: ws) ({ frames := 4, cells := 3, slots := 6, locals := 66 } : Room)) (fun a U => a = #[(.int p1), (.int p2), (.int p3), (.int p4)] ∧ Z.Warmed39 U.vm ∧ U.heap = h0) (fun _ _ _ _ _ => True) (fun _ U o U' => ∃ v L, o = .returned v ∧ Q1 Z p1 p2 p3 p4 csz h0 n0 v U'.heap L ∧ FrameEnd U o U' L ({ frames := 4, cells := 3, slots := 6, locals := 66 } : Room).cells ({ frames := 4, cells := 3, slots := 6, locals := 66 } : Room).slots) := by
  refine MetFree.of_bodySF (plainFor_of_name pn_1) hisR ?_
  intro p e s m args below meth c s₁ Bd hml0 hP hK
  obtain ⟨rfl, hZ, hh⟩ := hP
  have hx := Bd.exec
  have hby := Bd.bytes
  have hml : c.maxLocals = 5 := hml0
  have hown : s.vm.findClass "com/example/attesta/attesta/contract/MalattiaWithDataFinePinLaw" = some m.cls := findClass_of_methodNamed Bd.named
  have hnm := (name_of_methodNamed Bd.named Bd.method).1
  have X0 : Stand p l e ({ frames := 4, cells := 3, slots := 6, locals := 66 } : Room) s m #[(.int p1), (.int p2), (.int p3), (.int p4)] below meth c s₁ [] 0 0 := Stand.of_body Bd
  have e0 : s₁.heap = h0 := by rw [← hh, Bd.state]; rfl
  have N0 := Fr.nil n0
  show own_Go p.tables e below (own_Fin below s (Q1 Z p1 p2 p3 p4 csz h0 n0) ({ frames := 4, cells := 3, slots := 6, locals := 66 } : Room).cells ({ frames := 4, cells := 3, slots := 6, locals := 66 } : Room).slots) (s₁.setTop (entryFrame m #[(.int p1), (.int p2), (.int p3), (.int p4)] 5))
  refine own_go (S' := s₁.setTop (mkF m 0 #[.val (.int p1), .val (.int p2), .val (.int p3), .val (.int p4), .unset] [])) (fun t k => castTop (ef_1 m p1 p2 p3 p4) k) ?_
  have hws : ∀ d ∈ StrChars.Road.words, d.before a0 Z = true := fun d hd => hw d (own_words d hd)
  show own_Go p.tables e below _ (s₁.setTop (mkF m 0 #[.val (.int p1), .val (.int p2), .val (.int p3), .val (.int p4), .unset] []))
  refine own_go (fun _ => XS.iloadN X0.here hx rfl (hb hby d1_0) rfl) ?_
  show own_Go p.tables e below _ (s₁.setTop (mkF m 1 #[.val (.int p1), .val (.int p2), .val (.int p3), .val (.int p4), .unset] [(.int p3)]))
  refine own_go (fun _ => XS.iloadN X0.here hx rfl (hb hby d1_1) rfl) ?_
  show own_Go p.tables e below _ (s₁.setTop (mkF m 2 #[.val (.int p1), .val (.int p2), .val (.int p3), .val (.int p4), .unset] [(.int p4), (.int p3)]))
  refine own_go (fun _ => XS.iushr X0.here hx rfl (hb hby d1_2) rfl) ?_
  show own_Go p.tables e below _ (s₁.setTop (mkF m 3 #[.val (.int p1), .val (.int p2), .val (.int p3), .val (.int p4), .unset] [(.int ((p3.toUInt32 >>> (p4 &&& 31).toUInt32).toInt32))]))
  refine own_go (fun _ => XS.iconst X0.here hx rfl (hb hby d1_3)) ?_
  show own_Go p.tables e below _ (s₁.setTop (mkF m 4 #[.val (.int p1), .val (.int p2), .val (.int p3), .val (.int p4), .unset] [(.int (1 : Int32)), (.int ((p3.toUInt32 >>> (p4 &&& 31).toUInt32).toInt32))]))
  refine own_go (fun _ => XS.iand X0.here hx rfl (hb hby d1_4) rfl) ?_
  show own_Go p.tables e below _ (s₁.setTop (mkF m 5 #[.val (.int p1), .val (.int p2), .val (.int p3), .val (.int p4), .unset] [(.int (((p3.toUInt32 >>> (p4 &&& 31).toUInt32).toInt32) &&& (1 : Int32)))]))
  by_cases hc5_5 : (((p3.toUInt32 >>> (p4 &&& 31).toUInt32).toInt32) &&& (1 : Int32)) = (0 : Int32)
  · skip
    refine own_go (fun _ => XS.ifYes X0.here hx rfl (pc0 := 5) (pc' := 10) rfl (hb hby d1_5) rfl ((if0 _ _).trans (teq hc5_5).1) (by decide) (by decide)) ?_
    show own_Go p.tables e below _ (s₁.setTop (mkF m 10 #[.val (.int p1), .val (.int p2), .val (.int p3), .val (.int p4), .unset] []))
    refine own_go (fun _ => XS.iconst X0.here hx rfl (hb hby d1_10)) ?_
    show own_Go p.tables e below _ (s₁.setTop (mkF m 11 #[.val (.int p1), .val (.int p2), .val (.int p3), .val (.int p4), .unset] [(.int (1 : Int32))]))
    obtain ⟨T6, h6, k6, X6, e6, E6, A6, B6, st6⟩ := newPE X0 hx hZ (hw _ (List.mem_of_getElem? (i := 4) rfl)) e0 (g := (mkF m 11 #[.val (.int p1), .val (.int p2), .val (.int p3), .val (.int p4), .unset] [(.int (1 : Int32))])) rfl (hb hby d1_11) rfl (by decide) (cap := 1) (by decide) (by decide) (by decide) (by decide) (ad := "[C") (by decide)
    obtain ⟨b6, g6⟩ : ∃ z, z = h0.size := ⟨_, rfl⟩
    rw [← g6] at A6 B6 st6
    refine own_go st6 ?_
    have g_b6 : n0 ≤ b6 := Nat.le_trans Z0 (Nat.le_of_eq g6.symm)
    have sz_b6 : h0.size ≤ b6 := (Nat.le_trans (Keep.refl h0 []).1 (Nat.le_of_eq g6.symm))
    have K6 : Keep h0 h6 [] := (Keep.refl h0 []).ext E6
    have V6 : Arv Z h6 b6 k6 .char (1 : Int32) [(.int (0 : Int32))] (.int (0 : Int32)) := (Arv.new A6 (by decide)).pad (pad_rep [] (.int (0 : Int32)) 1)
    show own_Go p.tables e below _ (T6.setTop (mkF m 13 #[.val (.int p1), .val (.int p2), .val (.int p3), .val (.int p4), .unset] [(.ref b6)]))
    refine own_go (fun _ => XS.astore X6.here hx rfl (hb hby d1_13) rfl rfl (l' := #[.val (.int p1), .val (.int p2), .val (.int p3), .val (.int p4), .val (.ref b6)]) rfl) ?_
    show own_Go p.tables e below _ (T6.setTop (mkF m 15 #[.val (.int p1), .val (.int p2), .val (.int p3), .val (.int p4), .val (.ref b6)] []))
    refine own_go (fun _ => XS.aload X6.here hx rfl (hb hby d1_15) rfl rfl) ?_
    show own_Go p.tables e below _ (T6.setTop (mkF m 17 #[.val (.int p1), .val (.int p2), .val (.int p3), .val (.int p4), .val (.ref b6)] [(.ref b6)]))
    refine own_go (fun _ => XS.iconst X6.here hx rfl (hb hby d1_17)) ?_
    show own_Go p.tables e below _ (T6.setTop (mkF m 18 #[.val (.int p1), .val (.int p2), .val (.int p3), .val (.int p4), .val (.ref b6)] [(.int (0 : Int32)), (.ref b6)]))
    refine own_go (fun _ => XS.iloadN X6.here hx rfl (hb hby d1_18) rfl) ?_
    show own_Go p.tables e below _ (T6.setTop (mkF m 19 #[.val (.int p1), .val (.int p2), .val (.int p3), .val (.int p4), .val (.ref b6)] [(.int p1), (.int (0 : Int32)), (.ref b6)]))
    refine own_go (fun _ => XS.iloadN X6.here hx rfl (hb hby d1_19) rfl) ?_
    show own_Go p.tables e below _ (T6.setTop (mkF m 20 #[.val (.int p1), .val (.int p2), .val (.int p3), .val (.int p4), .val (.ref b6)] [(.int p2), (.int p1), (.int (0 : Int32)), (.ref b6)]))
    refine own_go (fun _ => XS.iushr X6.here hx rfl (hb hby d1_20) rfl) ?_
    show own_Go p.tables e below _ (T6.setTop (mkF m 21 #[.val (.int p1), .val (.int p2), .val (.int p3), .val (.int p4), .val (.ref b6)] [(.int ((p1.toUInt32 >>> (p2 &&& 31).toUInt32).toInt32)), (.int (0 : Int32)), (.ref b6)]))
    refine own_go (fun _ => XS.sipush X6.here hx rfl (hb hby d1_21)) ?_
    show own_Go p.tables e below _ (T6.setTop (mkF m 24 #[.val (.int p1), .val (.int p2), .val (.int p3), .val (.int p4), .val (.ref b6)] [(.int (255 : Int32)), (.int ((p1.toUInt32 >>> (p2 &&& 31).toUInt32).toInt32)), (.int (0 : Int32)), (.ref b6)]))
    refine own_go (fun _ => XS.iand X6.here hx rfl (hb hby d1_24) rfl) ?_
    show own_Go p.tables e below _ (T6.setTop (mkF m 25 #[.val (.int p1), .val (.int p2), .val (.int p3), .val (.int p4), .val (.ref b6)] [(.int (((p1.toUInt32 >>> (p2 &&& 31).toUInt32).toInt32) &&& (255 : Int32))), (.int (0 : Int32)), (.ref b6)]))
    refine own_go (fun _ => XS.i2c X6.here hx rfl (hb hby d1_25) rfl) ?_
    show own_Go p.tables e below _ (T6.setTop (mkF m 26 #[.val (.int p1), .val (.int p2), .val (.int p3), .val (.int p4), .val (.ref b6)] [(.int ((((p1.toUInt32 >>> (p2 &&& 31).toUInt32).toInt32) &&& (255 : Int32)).toUInt32.toUInt16.toUInt32.toInt32)), (.int (0 : Int32)), (.ref b6)]))
    obtain ⟨cl7, Ar7, q7, S7, M7, Hh7, G7⟩ := id V6
    have hin7 : ¬ ((0 : Int32) < 0 ∨ cl7.slots.size ≤ ((0 : Int32)).toNatClampNeg) := inb_of S7 ⟨by decide, by decide⟩
    obtain ⟨T7, h7, X7, e7, W7, st7⟩ := stC X6 hx hZ e6 Ar7 (j := (0 : Int32)) hin7 (g := (mkF m 26 #[.val (.int p1), .val (.int p2), .val (.int p3), .val (.int p4), .val (.ref b6)] [(.int ((((p1.toUInt32 >>> (p2 &&& 31).toUInt32).toInt32) &&& (255 : Int32)).toUInt32.toUInt16.toUInt32.toInt32)), (.int (0 : Int32)), (.ref b6)])) rfl rfl (hb hby d1_26)
    refine own_go st7 ?_
    have V7 : Arv Z h7 b6 k6 .char (1 : Int32) [(.int (nar .char ((((p1.toUInt32 >>> (p2 &&& 31).toUInt32).toInt32) &&& (255 : Int32)).toUInt32.toUInt16.toUInt32.toInt32)))] (.int (0 : Int32)) := Arv.set Ar7 q7 S7 M7 Hh7 G7 (fits_nar_char _) W7 0 rfl (Nat.le_of_ble_eq_true rfl)
    have K7 : Keep h0 h7 [] := K6.wr W7 (Or.inr sz_b6)
    have N7 := Fr.snoc X7 N0 g_b6
    show own_Go p.tables e below _ (T7.setTop (mkF m 27 #[.val (.int p1), .val (.int p2), .val (.int p3), .val (.int p4), .val (.ref b6)] []))
    obtain ⟨T8, h8, X8, e8, E8, A8, D8, -, st8⟩ := newO X7 hx hZ hown (hw _ (List.mem_of_getElem? (i := 5) rfl)) (hw _ (List.mem_of_getElem? (i := 6) rfl)) (hw _ (List.mem_of_getElem? (i := 7) rfl)) e7 (g := (mkF m 27 #[.val (.int p1), .val (.int p2), .val (.int p3), .val (.int p4), .val (.ref b6)] [])) rfl (hb hby d1_27) (by decide) (by decide)
    obtain ⟨b8, g8⟩ : ∃ z, z = h7.size := ⟨_, rfl⟩
    rw [← g8] at A8 D8 st8
    refine own_go st8 ?_
    have g_b8 : n0 ≤ b8 := Nat.le_trans (Nat.le_trans (Nat.le_trans Z0 E6.1) (Keep.of_wr W7).1) (Nat.le_of_eq g8.symm)
    have sz_b8 : h0.size ≤ b8 := (Nat.le_trans K7.1 (Nat.le_of_eq g8.symm))
    have K8 : Keep h0 h8 [] := K7.ext E8
    have F_coder_b8 : Fld Z h8 b8 "java/lang/String" "coder" "B" (.int (0 : Int32)) := D8 (Or.inr (hw _ (List.mem_of_getElem? (i := 31) rfl))) (ty := .byte) (by decide)
    have F_value_b8 : Fld Z h8 b8 "java/lang/String" "value" "[B" .null := D8 (Or.inr (hw _ (List.mem_of_getElem? (i := 33) rfl))) (ty := (.array .byte)) (by decide)
    show own_Go p.tables e below _ (T8.setTop (mkF m 30 #[.val (.int p1), .val (.int p2), .val (.int p3), .val (.int p4), .val (.ref b6)] [(.ref b8)]))
    refine own_go (fun _ => XS.dup X8.here hx rfl (hb hby d1_30) rfl rfl) ?_
    show own_Go p.tables e below _ (T8.setTop (mkF m 31 #[.val (.int p1), .val (.int p2), .val (.int p3), .val (.int p4), .val (.ref b6)] [(.ref b8), (.ref b8)]))
    refine own_go (fun _ => XS.aload X8.here hx rfl (hb hby d1_31) rfl rfl) ?_
    show own_Go p.tables e below _ (T8.setTop (mkF m 33 #[.val (.int p1), .val (.int p2), .val (.int p3), .val (.int p4), .val (.ref b6)] [(.ref b6), (.ref b8), (.ref b8)]))
    have hp9 : ∀ c ∈ ([(nar .char ((((p1.toUInt32 >>> (p2 &&& 31).toUInt32).toInt32) &&& (255 : Int32)).toUInt32.toUInt16.toUInt32.toInt32))] : List Int32), ¬ c < 0 ∧ ¬ (255 : Int32) < c := fun c hc => by
      simp only [List.mem_cons, List.not_mem_nil, or_false] at hc
      subst hc
      exact own_chars _
    obtain ⟨v9, T9, L9, X9, hQ9, st9⟩ := own_tidyV X8 (X8.specialBack hx (y := (⟨"java/lang/String", "<init>", "([C)V"⟩ : MethodName)) rfl hown (mvT hZ (hw _ (List.mem_of_getElem? (i := 8) rfl))) (mvT hZ (hw _ (List.mem_of_getElem? (i := 9) rfl))) (mvT hZ (hw _ (List.mem_of_getElem? (i := 10) rfl))) (by decide) (StrChars.Road.backV (W := 1) hZ hws (kI := 4) (hw _ (List.mem_of_getElem? (i := 6) rfl)) (cs := ([(nar .char ((((p1.toUInt32 >>> (p2 &&& 31).toUInt32).toInt32) &&& (255 : Int32)).toUInt32.toUInt16.toUInt32.toInt32))] : List Int32)) (bs := ([(nar .char ((((p1.toUInt32 >>> (p2 &&& 31).toUInt32).toInt32) &&& (255 : Int32)).toUInt32.toUInt16.toUInt32.toInt32))] : List Int32).map (fun c => c.toInt8.toInt32)) (n := 1) g_b8 (Nat.le_trans (Nat.le_trans (Nat.le_trans Z0 E6.1) (Keep.of_wr W7).1) E8.1) A8 F_value_b8 F_coder_b8 (V7.ext E8) (S_CS.ext (((O0.ext E6).wr W7 g_b6).ext E8).2) hcs rfl rfl (by decide) (by decide) hp9 rfl (by decide) (by decide)) (g := (mkF m 33 #[.val (.int p1), .val (.int p2), .val (.int p3), .val (.int p4), .val (.ref b6)] [(.ref b6), (.ref b8), (.ref b8)])) rfl (by rw [hml]; rfl) (Steps.refl _) (a := b8) (argsL := [(.ref b6)]) (rest := [(.ref b8)]) (lenOf pd_1 rfl) rfl (by show 2 * 0 + _ ≤ _; exact Nat.le_of_eq rfl) (hb hby d1_33) (fun _ _ => ⟨rfl, e8, (by decide : 2 + 1 ≤ _), (by decide : 5 + 1 ≤ _)⟩)) (c' := 3) (n' := 6) rfl rfl
    obtain ⟨rfl, N9q, Kc9, -⟩ := hQ9
    have N9 := Fr.app N7 N9q
    refine own_via st9 ?_
    have K9 : Keep h0 T9.heap [] := K8.trans Kc9 (allS (Or.inr sz_b8) all0)
    show own_Go p.tables e below _ (T9.setTop (mkF m 36 #[.val (.int p1), .val (.int p2), .val (.int p3), .val (.int p4), .val (.ref b6)] [(.ref b8)]))
    refine own_retA X9 Bd.notSynchronized hx Bd.returns rfl rfl rfl (hb hby d1_36) (show Q1 Z p1 p2 p3 p4 csz h0 n0 _ T9.heap _ from ⟨⟨_, rfl, rfl⟩, N9, K9⟩) (by decide) (by decide)
  · skip
    refine own_go (fun _ => XS.ifNo X0.here hx rfl (hb hby d1_5) rfl ((if0 _ _).trans (feq hc5_5).1)) ?_
    show own_Go p.tables e below _ (s₁.setTop (mkF m 8 #[.val (.int p1), .val (.int p2), .val (.int p3), .val (.int p4), .unset] []))
    refine own_go (fun _ => XS.aconstNull X0.here hx rfl (hb hby d1_8)) ?_
    show own_Go p.tables e below _ (s₁.setTop (mkF m 9 #[.val (.int p1), .val (.int p2), .val (.int p3), .val (.int p4), .unset] [.null]))
    refine own_retA X0 Bd.notSynchronized hx Bd.returns rfl rfl rfl (hb hby d1_9) (show Q1 Z p1 p2 p3 p4 csz h0 n0 _ s₁.heap _ from by rw [e0]; exact ⟨⟨_, rfl, rfl⟩, N0, (Keep.refl h0 [])⟩) (by decide) (by decide)
theorem d9_0 : decode jdk_30_method_1_code 0 = .ok (.aload_n 0, 1) := by decide +kernel
theorem d9_1 : decode jdk_30_method_1_code 1 = .ok (.invokespecial 1, 3) := by decide +kernel
theorem d9_4 : decode jdk_30_method_1_code 4 = .ok (.return_, 1) := by decide +kernel
theorem pn_9 : plainName "java/lang/Record" = true := by first | (simp [plainName, overriddenIn]; done) | decide +kernel
theorem ef_9 (m : MethodId) (a1 : Addr) : entryFrame m #[(.ref a1)] 1 = mkF m 0 #[.val (.ref a1)] [] := by first | (simp [entryFrame, mkF, argsToLocals, Value.category]; done) | rfl
def Q9 (Z : State) (a1 : Addr) (h0 : Heap) (n0 : Nat) (v : Option Value) (h : Heap) (L : List Loc) : Prop := v = none ∧ Fr n0 L ∧ h = h0
set_option maxRecDepth 65536 in
set_option maxHeartbeats 40000000 in
theorem rm9 (l : Launch) (Z : State) (a0 : Array Value) (hw : ∀ d ∈ tables_1, d.before a0 Z = true) (ws : List Jvm.Cond) (a1 : Addr) (h0 : Heap) (n0 : Nat) (Z0 : n0 ≤ h0.size) :
    MetFree l (⟨"java/lang/Record", "<init>", "()V"⟩ : MethodName) (head1 (Jvm.Cond.code (⟨"java/lang/Record", "<init>", "()V"⟩ : MethodName) jdk_30_method_1_code 1 none :: ws) ({ frames := 1, cells := 0, slots := 0, locals := 12 } : Room)) (fun a U => a = #[(.ref a1)] ∧ Z.Warmed39 U.vm ∧ U.heap = h0) (fun _ _ _ _ _ => True) (fun _ U o U' => ∃ v L, o = .returned v ∧ Q9 Z a1 h0 n0 v U'.heap L ∧ FrameEnd U o U' L ({ frames := 1, cells := 0, slots := 0, locals := 12 } : Room).cells ({ frames := 1, cells := 0, slots := 0, locals := 12 } : Room).slots) := by
  refine MetFree.of_bodySF (plainFor_of_name pn_9) hisR ?_
  intro p e s m args below meth c s₁ Bd hml0 hP hK
  obtain ⟨rfl, hZ, hh⟩ := hP
  have hx := Bd.exec
  have hby := Bd.bytes
  have hml : c.maxLocals = 1 := hml0
  have hown : s.vm.findClass "java/lang/Record" = some m.cls := findClass_of_methodNamed Bd.named
  have hnm := (name_of_methodNamed Bd.named Bd.method).1
  have X0 : Stand p l e ({ frames := 1, cells := 0, slots := 0, locals := 12 } : Room) s m #[(.ref a1)] below meth c s₁ [] 0 0 := Stand.of_body Bd
  have e0 : s₁.heap = h0 := by rw [← hh, Bd.state]; rfl
  have N0 := Fr.nil n0
  show own_Go p.tables e below (own_Fin below s (Q9 Z a1 h0 n0) ({ frames := 1, cells := 0, slots := 0, locals := 12 } : Room).cells ({ frames := 1, cells := 0, slots := 0, locals := 12 } : Room).slots) (s₁.setTop (entryFrame m #[(.ref a1)] 1))
  refine own_go (S' := s₁.setTop (mkF m 0 #[.val (.ref a1)] [])) (fun t k => castTop (ef_9 m a1) k) ?_
  show own_Go p.tables e below _ (s₁.setTop (mkF m 0 #[.val (.ref a1)] []))
  refine own_go (fun _ => XS.aloadN X0.here hx rfl (hb hby d9_0) rfl rfl) ?_
  show own_Go p.tables e below _ (s₁.setTop (mkF m 1 #[.val (.ref a1)] [(.ref a1)]))
  obtain ⟨T2, X2, e2, st2⟩ := initO X0 hx hZ hown (hw _ (List.mem_of_getElem? (i := 45) rfl)) (hw _ (List.mem_of_getElem? (i := 16) rfl)) (hw _ (List.mem_of_getElem? (i := 17) rfl)) e0 (g := (mkF m 1 #[.val (.ref a1)] [(.ref a1)])) rfl (by rw [hml]; rfl) rfl (hb hby d9_1) (by decide) (W := 0) (by show 2 * 0 + _ ≤ _; exact Nat.le_of_eq rfl) (by decide)
  refine own_go st2 ?_
  show own_Go p.tables e below _ (T2.setTop (mkF m 4 #[.val (.ref a1)] []))
  refine own_ret0 X2 Bd.notSynchronized hx Bd.returns (hb hby d9_4) (show Q9 Z a1 h0 n0 _ T2.heap _ from by rw [e2]; exact ⟨rfl, N0, rfl⟩) (by decide) (by decide)
theorem d8_0 : decode prog_17_method_1_code 0 = .ok (.aload_n 0, 1) := by decide +kernel
theorem d8_1 : decode prog_17_method_1_code 1 = .ok (.invokespecial 1, 3) := by decide +kernel
theorem d8_4 : decode prog_17_method_1_code 4 = .ok (.aload_n 0, 1) := by decide +kernel
theorem d8_5 : decode prog_17_method_1_code 5 = .ok (.aload_n 1, 1) := by decide +kernel
theorem d8_6 : decode prog_17_method_1_code 6 = .ok (.putfield 7, 3) := by decide +kernel
theorem d8_9 : decode prog_17_method_1_code 9 = .ok (.aload_n 0, 1) := by decide +kernel
theorem d8_10 : decode prog_17_method_1_code 10 = .ok (.aload_n 2, 1) := by decide +kernel
theorem d8_11 : decode prog_17_method_1_code 11 = .ok (.putfield 13, 3) := by decide +kernel
theorem d8_14 : decode prog_17_method_1_code 14 = .ok (.return_, 1) := by decide +kernel
theorem pn_8 : plainName "com/example/attesta/attesta/contract/Diagnosi" = true := by first | (simp [plainName, overriddenIn]; done) | decide +kernel
theorem pd_3 : parseMethodDescriptor "()V" = some ⟨[], none⟩ := by decide +kernel
theorem ef_8 (m : MethodId) (a1 : Addr) (v2 : Value) (v3 : Value) (r_v2 : v2.isRef = true) (r_v3 : v3.isRef = true) : entryFrame m #[(.ref a1), v2, v3] 3 = mkF m 0 #[.val (.ref a1), .val v2, .val v3] [] := by
  have c_v2 := own_cat r_v2
  have c_v3 := own_cat r_v3
  simp [entryFrame, mkF, argsToLocals, own_catR, c_v2, c_v3]
def Q8 (Z : State) (a1 : Addr) (v2 : Value) (v3 : Value) (u_codiceDiagnosi_a1 : Value) (u_noteDiagnosi_a1 : Value) (h0 : Heap) (n0 : Nat) (v : Option Value) (h : Heap) (L : List Loc) : Prop := v = none ∧ Fr n0 L ∧ Keep h0 h [a1] ∧ Exa Z h a1 "com/example/attesta/attesta/contract/Diagnosi" ∧ Fld Z h a1 "com/example/attesta/attesta/contract/Diagnosi" "codiceDiagnosi" "Ljava/lang/String;" v2 ∧ Fld Z h a1 "com/example/attesta/attesta/contract/Diagnosi" "noteDiagnosi" "Ljava/lang/String;" v3
set_option maxRecDepth 65536 in
set_option maxHeartbeats 40000000 in
theorem rm8 (l : Launch) (Z : State) (a0 : Array Value) (hw : ∀ d ∈ tables_1, d.before a0 Z = true) (ws : List Jvm.Cond) (a1 : Addr) (v2 : Value) (v3 : Value) (u_codiceDiagnosi_a1 : Value) (u_noteDiagnosi_a1 : Value) (h0 : Heap) (n0 : Nat) (Z0 : n0 ≤ h0.size) (r_v2 : v2.isRef = true) (r_v3 : v3.isRef = true) (E_a1 : Exa Z h0 a1 "com/example/attesta/attesta/contract/Diagnosi") (F_codiceDiagnosi_a1 : Fld Z h0 a1 "com/example/attesta/attesta/contract/Diagnosi" "codiceDiagnosi" "Ljava/lang/String;" u_codiceDiagnosi_a1) (g_a1 : n0 ≤ a1) (F_noteDiagnosi_a1 : Fld Z h0 a1 "com/example/attesta/attesta/contract/Diagnosi" "noteDiagnosi" "Ljava/lang/String;" u_noteDiagnosi_a1) :
    MetFree l (⟨"com/example/attesta/attesta/contract/Diagnosi", "<init>", "(Ljava/lang/String;Ljava/lang/String;)V"⟩ : MethodName) (head1 (Jvm.Cond.code (⟨"com/example/attesta/attesta/contract/Diagnosi", "<init>", "(Ljava/lang/String;Ljava/lang/String;)V"⟩ : MethodName) prog_17_method_1_code 3 none :: ws) ({ frames := 2, cells := 0, slots := 0, locals := 24 } : Room)) (fun a U => a = #[(.ref a1), v2, v3] ∧ Z.Warmed39 U.vm ∧ U.heap = h0) (fun _ _ _ _ _ => True) (fun _ U o U' => ∃ v L, o = .returned v ∧ Q8 Z a1 v2 v3 u_codiceDiagnosi_a1 u_noteDiagnosi_a1 h0 n0 v U'.heap L ∧ FrameEnd U o U' L ({ frames := 2, cells := 0, slots := 0, locals := 24 } : Room).cells ({ frames := 2, cells := 0, slots := 0, locals := 24 } : Room).slots) := by
  refine MetFree.of_bodySF (plainFor_of_name pn_8) hisR ?_
  intro p e s m args below meth c s₁ Bd hml0 hP hK
  obtain ⟨rfl, hZ, hh⟩ := hP
  have hx := Bd.exec
  have hby := Bd.bytes
  have hml : c.maxLocals = 3 := hml0
  have hown : s.vm.findClass "com/example/attesta/attesta/contract/Diagnosi" = some m.cls := findClass_of_methodNamed Bd.named
  have hnm := (name_of_methodNamed Bd.named Bd.method).1
  have X0 : Stand p l e ({ frames := 2, cells := 0, slots := 0, locals := 24 } : Room) s m #[(.ref a1), v2, v3] below meth c s₁ [] 0 0 := Stand.of_body Bd
  have e0 : s₁.heap = h0 := by rw [← hh, Bd.state]; rfl
  have N0 := Fr.nil n0
  show own_Go p.tables e below (own_Fin below s (Q8 Z a1 v2 v3 u_codiceDiagnosi_a1 u_noteDiagnosi_a1 h0 n0) ({ frames := 2, cells := 0, slots := 0, locals := 24 } : Room).cells ({ frames := 2, cells := 0, slots := 0, locals := 24 } : Room).slots) (s₁.setTop (entryFrame m #[(.ref a1), v2, v3] 3))
  refine own_go (S' := s₁.setTop (mkF m 0 #[.val (.ref a1), .val v2, .val v3] [])) (fun t k => castTop (ef_8 m a1 v2 v3 r_v2 r_v3) k) ?_
  show own_Go p.tables e below _ (s₁.setTop (mkF m 0 #[.val (.ref a1), .val v2, .val v3] []))
  refine own_go (fun _ => XS.aloadN X0.here hx rfl (hb hby d8_0) rfl rfl) ?_
  show own_Go p.tables e below _ (s₁.setTop (mkF m 1 #[.val (.ref a1), .val v2, .val v3] [(.ref a1)]))
  obtain ⟨v1, T1, L1, X1, hQ1, st1⟩ := own_tidyV X0 (X0.specialBack hx (y := (⟨"java/lang/Record", "<init>", "()V"⟩ : MethodName)) rfl hown (mvT hZ (hw _ (List.mem_of_getElem? (i := 40) rfl))) (mvT hZ (hw _ (List.mem_of_getElem? (i := 41) rfl))) (mvT hZ (hw _ (List.mem_of_getElem? (i := 44) rfl))) (by decide) (backOf (W := 0) (rm9 l Z a0 hw [] a1 h0 n0 Z0 ) hZ (hw _ (List.mem_of_getElem? (i := 44) rfl)) (hw _ (List.mem_of_getElem? (i := 43) rfl)) (by decide) (by decide)) (g := (mkF m 1 #[.val (.ref a1), .val v2, .val v3] [(.ref a1)])) rfl (by rw [hml]; rfl) (Steps.refl _) (a := a1) (argsL := []) (rest := []) (lenOf pd_3 rfl) rfl (by show 2 * 0 + _ ≤ _; exact Nat.le_of_eq rfl) (hb hby d8_1) (fun _ _ => ⟨rfl, e0, (by decide : 0 + 0 ≤ _), (by decide : 0 + 0 ≤ _)⟩)) (c' := 0) (n' := 0) rfl rfl
  obtain ⟨rfl, N1q, e1⟩ := hQ1
  have N1 := Fr.app N0 N1q
  refine own_via st1 ?_
  show own_Go p.tables e below _ (T1.setTop (mkF m 4 #[.val (.ref a1), .val v2, .val v3] []))
  refine own_go (fun _ => XS.aloadN X1.here hx rfl (hb hby d8_4) rfl rfl) ?_
  show own_Go p.tables e below _ (T1.setTop (mkF m 5 #[.val (.ref a1), .val v2, .val v3] [(.ref a1)]))
  refine own_go (fun _ => XS.aloadN X1.here hx rfl (hb hby d8_5) rfl r_v2) ?_
  show own_Go p.tables e below _ (T1.setTop (mkF m 6 #[.val (.ref a1), .val v2, .val v3] [v2, (.ref a1)]))
  obtain ⟨T2, h2, X2, e2, W2, st2⟩ := putF X1 hx hZ hown (host := "") (Or.inl (hw _ (List.mem_of_getElem? (i := 46) rfl))) Via.refl e1 F_codiceDiagnosi_a1 E_a1 (Or.inr ⟨(hw _ (List.mem_of_getElem? (i := 47) rfl)), rfl, hnm⟩) (hw _ (List.mem_of_getElem? (i := 35) rfl)) (ty := (.object "java/lang/String")) (by decide) (own_narR r_v2) (own_fitR r_v2) (g := (mkF m 6 #[.val (.ref a1), .val v2, .val v3] [v2, (.ref a1)])) rfl rfl (hb hby d8_6)
  refine own_go st2 ?_
  have Fw2 := F_codiceDiagnosi_a1.same W2
  have K2 : Keep h0 h2 [a1] := (Keep.refl h0 [a1]).wr W2 (Or.inl (List.mem_of_getElem? (i := 0) rfl))
  have N2 := Fr.snoc X2 N1 g_a1
  show own_Go p.tables e below _ (T2.setTop (mkF m 9 #[.val (.ref a1), .val v2, .val v3] []))
  refine own_go (fun _ => XS.aloadN X2.here hx rfl (hb hby d8_9) rfl rfl) ?_
  show own_Go p.tables e below _ (T2.setTop (mkF m 10 #[.val (.ref a1), .val v2, .val v3] [(.ref a1)]))
  refine own_go (fun _ => XS.aloadN X2.here hx rfl (hb hby d8_10) rfl r_v3) ?_
  show own_Go p.tables e below _ (T2.setTop (mkF m 11 #[.val (.ref a1), .val v2, .val v3] [v3, (.ref a1)]))
  obtain ⟨T3, h3, X3, e3, W3, st3⟩ := putF X2 hx hZ hown (host := "") (Or.inl (hw _ (List.mem_of_getElem? (i := 48) rfl))) Via.refl e2 (F_noteDiagnosi_a1.other W2 (Or.inr (slot_ne (Or.inr (hw _ (List.mem_of_getElem? (i := 49) rfl))) (Or.inr (hw _ (List.mem_of_getElem? (i := 47) rfl))) (by decide) (t := (.object "java/lang/String")) (t' := (.object "java/lang/String")) (by decide) (by decide)))) (E_a1.wr W2) (Or.inr ⟨(hw _ (List.mem_of_getElem? (i := 49) rfl)), rfl, hnm⟩) (hw _ (List.mem_of_getElem? (i := 35) rfl)) (ty := (.object "java/lang/String")) (by decide) (own_narR r_v3) (own_fitR r_v3) (g := (mkF m 11 #[.val (.ref a1), .val v2, .val v3] [v3, (.ref a1)])) rfl rfl (hb hby d8_11)
  refine own_go st3 ?_
  have Fw3 := (F_noteDiagnosi_a1.other W2 (Or.inr (slot_ne (Or.inr (hw _ (List.mem_of_getElem? (i := 49) rfl))) (Or.inr (hw _ (List.mem_of_getElem? (i := 47) rfl))) (by decide) (t := (.object "java/lang/String")) (t' := (.object "java/lang/String")) (by decide) (by decide)))).same W3
  have K3 : Keep h0 h3 [a1] := K2.wr W3 (Or.inl (List.mem_of_getElem? (i := 0) rfl))
  have N3 := Fr.snoc X3 N2 g_a1
  show own_Go p.tables e below _ (T3.setTop (mkF m 14 #[.val (.ref a1), .val v2, .val v3] []))
  refine own_ret0 X3 Bd.notSynchronized hx Bd.returns (hb hby d8_14) (show Q8 Z a1 v2 v3 u_codiceDiagnosi_a1 u_noteDiagnosi_a1 h0 n0 _ T3.heap _ from by rw [e3]; exact ⟨rfl, N3, K3, ((E_a1.wr W2).wr W3), (Fw2.other W3 (Or.inr (slot_ne (Or.inr (hw _ (List.mem_of_getElem? (i := 47) rfl))) (Or.inr (hw _ (List.mem_of_getElem? (i := 49) rfl))) (by decide) (t := (.object "java/lang/String")) (t' := (.object "java/lang/String")) (by decide) (by decide)))), Fw3⟩) (by decide) (by decide)
theorem d10_0 : decode prog_32_method_1_code 0 = .ok (.aload_n 0, 1) := by decide +kernel
theorem d10_1 : decode prog_32_method_1_code 1 = .ok (.invokespecial 1, 3) := by decide +kernel
theorem d10_4 : decode prog_32_method_1_code 4 = .ok (.aload_n 0, 1) := by decide +kernel
theorem d10_5 : decode prog_32_method_1_code 5 = .ok (.aload_n 1, 1) := by decide +kernel
theorem d10_6 : decode prog_32_method_1_code 6 = .ok (.putfield 7, 3) := by decide +kernel
theorem d10_9 : decode prog_32_method_1_code 9 = .ok (.aload_n 0, 1) := by decide +kernel
theorem d10_10 : decode prog_32_method_1_code 10 = .ok (.aload_n 2, 1) := by decide +kernel
theorem d10_11 : decode prog_32_method_1_code 11 = .ok (.putfield 13, 3) := by decide +kernel
theorem d10_14 : decode prog_32_method_1_code 14 = .ok (.aload_n 0, 1) := by decide +kernel
theorem d10_15 : decode prog_32_method_1_code 15 = .ok (.aload_n 3, 1) := by decide +kernel
theorem d10_16 : decode prog_32_method_1_code 16 = .ok (.putfield 16, 3) := by decide +kernel
theorem d10_19 : decode prog_32_method_1_code 19 = .ok (.aload_n 0, 1) := by decide +kernel
theorem d10_20 : decode prog_32_method_1_code 20 = .ok (.aload 4, 2) := by decide +kernel
theorem d10_22 : decode prog_32_method_1_code 22 = .ok (.putfield 19, 3) := by decide +kernel
theorem d10_25 : decode prog_32_method_1_code 25 = .ok (.aload_n 0, 1) := by decide +kernel
theorem d10_26 : decode prog_32_method_1_code 26 = .ok (.aload 5, 2) := by decide +kernel
theorem d10_28 : decode prog_32_method_1_code 28 = .ok (.putfield 22, 3) := by decide +kernel
theorem d10_31 : decode prog_32_method_1_code 31 = .ok (.aload_n 0, 1) := by decide +kernel
theorem d10_32 : decode prog_32_method_1_code 32 = .ok (.aload 6, 2) := by decide +kernel
theorem d10_34 : decode prog_32_method_1_code 34 = .ok (.putfield 25, 3) := by decide +kernel
theorem d10_37 : decode prog_32_method_1_code 37 = .ok (.aload_n 0, 1) := by decide +kernel
theorem d10_38 : decode prog_32_method_1_code 38 = .ok (.aload 7, 2) := by decide +kernel
theorem d10_40 : decode prog_32_method_1_code 40 = .ok (.putfield 28, 3) := by decide +kernel
theorem d10_43 : decode prog_32_method_1_code 43 = .ok (.aload_n 0, 1) := by decide +kernel
theorem d10_44 : decode prog_32_method_1_code 44 = .ok (.aload 8, 2) := by decide +kernel
theorem d10_46 : decode prog_32_method_1_code 46 = .ok (.putfield 32, 3) := by decide +kernel
theorem d10_49 : decode prog_32_method_1_code 49 = .ok (.aload_n 0, 1) := by decide +kernel
theorem d10_50 : decode prog_32_method_1_code 50 = .ok (.aload 9, 2) := by decide +kernel
theorem d10_52 : decode prog_32_method_1_code 52 = .ok (.putfield 35, 3) := by decide +kernel
theorem d10_55 : decode prog_32_method_1_code 55 = .ok (.aload_n 0, 1) := by decide +kernel
theorem d10_56 : decode prog_32_method_1_code 56 = .ok (.aload 10, 2) := by decide +kernel
theorem d10_58 : decode prog_32_method_1_code 58 = .ok (.putfield 38, 3) := by decide +kernel
theorem d10_61 : decode prog_32_method_1_code 61 = .ok (.return_, 1) := by decide +kernel
theorem pn_10 : plainName "com/example/attesta/attesta/contract/Malattia" = true := by first | (simp [plainName, overriddenIn]; done) | decide +kernel
theorem ef_10 (m : MethodId) (a1 : Addr) (v2 : Value) (v3 : Value) (v4 : Value) (v5 : Value) (v6 : Value) (v7 : Value) (v8 : Value) (v9 : Value) (v10 : Value) (v11 : Value) (r_v2 : v2.isRef = true) (r_v3 : v3.isRef = true) (r_v4 : v4.isRef = true) (r_v5 : v5.isRef = true) (r_v6 : v6.isRef = true) (r_v7 : v7.isRef = true) (r_v8 : v8.isRef = true) (r_v9 : v9.isRef = true) (r_v10 : v10.isRef = true) (r_v11 : v11.isRef = true) : entryFrame m #[(.ref a1), v2, v3, v4, v5, v6, v7, v8, v9, v10, v11] 11 = mkF m 0 #[.val (.ref a1), .val v2, .val v3, .val v4, .val v5, .val v6, .val v7, .val v8, .val v9, .val v10, .val v11] [] := by
  have c_v2 := own_cat r_v2
  have c_v3 := own_cat r_v3
  have c_v4 := own_cat r_v4
  have c_v5 := own_cat r_v5
  have c_v6 := own_cat r_v6
  have c_v7 := own_cat r_v7
  have c_v8 := own_cat r_v8
  have c_v9 := own_cat r_v9
  have c_v10 := own_cat r_v10
  have c_v11 := own_cat r_v11
  simp [entryFrame, mkF, argsToLocals, own_catR, c_v2, c_v3, c_v4, c_v5, c_v6, c_v7, c_v8, c_v9, c_v10, c_v11]
def Q10 (Z : State) (a1 : Addr) (v2 : Value) (v3 : Value) (v4 : Value) (v5 : Value) (v6 : Value) (v7 : Value) (v8 : Value) (v9 : Value) (v10 : Value) (v11 : Value) (u_ruoloMedico_a1 : Value) (u_dataRilascio_a1 : Value) (u_dataInizio_a1 : Value) (u_dataFine_a1 : Value) (u_visita_a1 : Value) (u_tipoCertificato_a1 : Value) (u_diagnosi_a1 : Value) (u_giornataLavorata_a1 : Value) (u_trauma_a1 : Value) (u_agevolazioni_a1 : Value) (h0 : Heap) (n0 : Nat) (v : Option Value) (h : Heap) (L : List Loc) : Prop := v = none ∧ Fr n0 L ∧ Keep h0 h [a1] ∧ Exa Z h a1 "com/example/attesta/attesta/contract/Malattia" ∧ Fld Z h a1 "com/example/attesta/attesta/contract/Malattia" "ruoloMedico" "Ljava/lang/String;" v2 ∧ Fld Z h a1 "com/example/attesta/attesta/contract/Malattia" "dataRilascio" "Ljava/lang/String;" v3 ∧ Fld Z h a1 "com/example/attesta/attesta/contract/Malattia" "dataInizio" "Ljava/lang/String;" v4 ∧ Fld Z h a1 "com/example/attesta/attesta/contract/Malattia" "dataFine" "Ljava/lang/String;" v5 ∧ Fld Z h a1 "com/example/attesta/attesta/contract/Malattia" "visita" "Ljava/lang/String;" v6 ∧ Fld Z h a1 "com/example/attesta/attesta/contract/Malattia" "tipoCertificato" "Ljava/lang/String;" v7 ∧ Fld Z h a1 "com/example/attesta/attesta/contract/Malattia" "diagnosi" "Lcom/example/attesta/attesta/contract/Diagnosi;" v8 ∧ Fld Z h a1 "com/example/attesta/attesta/contract/Malattia" "giornataLavorata" "Ljava/lang/String;" v9 ∧ Fld Z h a1 "com/example/attesta/attesta/contract/Malattia" "trauma" "Ljava/lang/String;" v10 ∧ Fld Z h a1 "com/example/attesta/attesta/contract/Malattia" "agevolazioni" "Ljava/lang/String;" v11
set_option maxRecDepth 65536 in
set_option maxHeartbeats 40000000 in
theorem rm10 (l : Launch) (Z : State) (a0 : Array Value) (hw : ∀ d ∈ tables_1, d.before a0 Z = true) (ws : List Jvm.Cond) (a1 : Addr) (v2 : Value) (v3 : Value) (v4 : Value) (v5 : Value) (v6 : Value) (v7 : Value) (v8 : Value) (v9 : Value) (v10 : Value) (v11 : Value) (u_ruoloMedico_a1 : Value) (u_dataRilascio_a1 : Value) (u_dataInizio_a1 : Value) (u_dataFine_a1 : Value) (u_visita_a1 : Value) (u_tipoCertificato_a1 : Value) (u_diagnosi_a1 : Value) (u_giornataLavorata_a1 : Value) (u_trauma_a1 : Value) (u_agevolazioni_a1 : Value) (h0 : Heap) (n0 : Nat) (Z0 : n0 ≤ h0.size) (r_v2 : v2.isRef = true) (r_v3 : v3.isRef = true) (r_v4 : v4.isRef = true) (r_v5 : v5.isRef = true) (r_v6 : v6.isRef = true) (r_v7 : v7.isRef = true) (r_v8 : v8.isRef = true) (r_v9 : v9.isRef = true) (r_v10 : v10.isRef = true) (r_v11 : v11.isRef = true) (E_a1 : Exa Z h0 a1 "com/example/attesta/attesta/contract/Malattia") (F_ruoloMedico_a1 : Fld Z h0 a1 "com/example/attesta/attesta/contract/Malattia" "ruoloMedico" "Ljava/lang/String;" u_ruoloMedico_a1) (g_a1 : n0 ≤ a1) (F_dataRilascio_a1 : Fld Z h0 a1 "com/example/attesta/attesta/contract/Malattia" "dataRilascio" "Ljava/lang/String;" u_dataRilascio_a1) (F_dataInizio_a1 : Fld Z h0 a1 "com/example/attesta/attesta/contract/Malattia" "dataInizio" "Ljava/lang/String;" u_dataInizio_a1) (F_dataFine_a1 : Fld Z h0 a1 "com/example/attesta/attesta/contract/Malattia" "dataFine" "Ljava/lang/String;" u_dataFine_a1) (F_visita_a1 : Fld Z h0 a1 "com/example/attesta/attesta/contract/Malattia" "visita" "Ljava/lang/String;" u_visita_a1) (F_tipoCertificato_a1 : Fld Z h0 a1 "com/example/attesta/attesta/contract/Malattia" "tipoCertificato" "Ljava/lang/String;" u_tipoCertificato_a1) (F_diagnosi_a1 : Fld Z h0 a1 "com/example/attesta/attesta/contract/Malattia" "diagnosi" "Lcom/example/attesta/attesta/contract/Diagnosi;" u_diagnosi_a1) (F_giornataLavorata_a1 : Fld Z h0 a1 "com/example/attesta/attesta/contract/Malattia" "giornataLavorata" "Ljava/lang/String;" u_giornataLavorata_a1) (F_trauma_a1 : Fld Z h0 a1 "com/example/attesta/attesta/contract/Malattia" "trauma" "Ljava/lang/String;" u_trauma_a1) (F_agevolazioni_a1 : Fld Z h0 a1 "com/example/attesta/attesta/contract/Malattia" "agevolazioni" "Ljava/lang/String;" u_agevolazioni_a1) :
    MetFree l (⟨"com/example/attesta/attesta/contract/Malattia", "<init>", "(Ljava/lang/String;Ljava/lang/String;Ljava/lang/String;Ljava/lang/String;Ljava/lang/String;Ljava/lang/String;Lcom/example/attesta/attesta/contract/Diagnosi;Ljava/lang/String;Ljava/lang/String;Ljava/lang/String;)V"⟩ : MethodName) (head1 (Jvm.Cond.code (⟨"com/example/attesta/attesta/contract/Malattia", "<init>", "(Ljava/lang/String;Ljava/lang/String;Ljava/lang/String;Ljava/lang/String;Ljava/lang/String;Ljava/lang/String;Lcom/example/attesta/attesta/contract/Diagnosi;Ljava/lang/String;Ljava/lang/String;Ljava/lang/String;)V"⟩ : MethodName) prog_32_method_1_code 11 none :: ws) ({ frames := 2, cells := 0, slots := 0, locals := 24 } : Room)) (fun a U => a = #[(.ref a1), v2, v3, v4, v5, v6, v7, v8, v9, v10, v11] ∧ Z.Warmed39 U.vm ∧ U.heap = h0) (fun _ _ _ _ _ => True) (fun _ U o U' => ∃ v L, o = .returned v ∧ Q10 Z a1 v2 v3 v4 v5 v6 v7 v8 v9 v10 v11 u_ruoloMedico_a1 u_dataRilascio_a1 u_dataInizio_a1 u_dataFine_a1 u_visita_a1 u_tipoCertificato_a1 u_diagnosi_a1 u_giornataLavorata_a1 u_trauma_a1 u_agevolazioni_a1 h0 n0 v U'.heap L ∧ FrameEnd U o U' L ({ frames := 2, cells := 0, slots := 0, locals := 24 } : Room).cells ({ frames := 2, cells := 0, slots := 0, locals := 24 } : Room).slots) := by
  refine MetFree.of_bodySF (plainFor_of_name pn_10) hisR ?_
  intro p e s m args below meth c s₁ Bd hml0 hP hK
  obtain ⟨rfl, hZ, hh⟩ := hP
  have hx := Bd.exec
  have hby := Bd.bytes
  have hml : c.maxLocals = 11 := hml0
  have hown : s.vm.findClass "com/example/attesta/attesta/contract/Malattia" = some m.cls := findClass_of_methodNamed Bd.named
  have hnm := (name_of_methodNamed Bd.named Bd.method).1
  have X0 : Stand p l e ({ frames := 2, cells := 0, slots := 0, locals := 24 } : Room) s m #[(.ref a1), v2, v3, v4, v5, v6, v7, v8, v9, v10, v11] below meth c s₁ [] 0 0 := Stand.of_body Bd
  have e0 : s₁.heap = h0 := by rw [← hh, Bd.state]; rfl
  have N0 := Fr.nil n0
  show own_Go p.tables e below (own_Fin below s (Q10 Z a1 v2 v3 v4 v5 v6 v7 v8 v9 v10 v11 u_ruoloMedico_a1 u_dataRilascio_a1 u_dataInizio_a1 u_dataFine_a1 u_visita_a1 u_tipoCertificato_a1 u_diagnosi_a1 u_giornataLavorata_a1 u_trauma_a1 u_agevolazioni_a1 h0 n0) ({ frames := 2, cells := 0, slots := 0, locals := 24 } : Room).cells ({ frames := 2, cells := 0, slots := 0, locals := 24 } : Room).slots) (s₁.setTop (entryFrame m #[(.ref a1), v2, v3, v4, v5, v6, v7, v8, v9, v10, v11] 11))
  refine own_go (S' := s₁.setTop (mkF m 0 #[.val (.ref a1), .val v2, .val v3, .val v4, .val v5, .val v6, .val v7, .val v8, .val v9, .val v10, .val v11] [])) (fun t k => castTop (ef_10 m a1 v2 v3 v4 v5 v6 v7 v8 v9 v10 v11 r_v2 r_v3 r_v4 r_v5 r_v6 r_v7 r_v8 r_v9 r_v10 r_v11) k) ?_
  show own_Go p.tables e below _ (s₁.setTop (mkF m 0 #[.val (.ref a1), .val v2, .val v3, .val v4, .val v5, .val v6, .val v7, .val v8, .val v9, .val v10, .val v11] []))
  refine own_go (fun _ => XS.aloadN X0.here hx rfl (hb hby d10_0) rfl rfl) ?_
  show own_Go p.tables e below _ (s₁.setTop (mkF m 1 #[.val (.ref a1), .val v2, .val v3, .val v4, .val v5, .val v6, .val v7, .val v8, .val v9, .val v10, .val v11] [(.ref a1)]))
  obtain ⟨v1, T1, L1, X1, hQ1, st1⟩ := own_tidyV X0 (X0.specialBack hx (y := (⟨"java/lang/Record", "<init>", "()V"⟩ : MethodName)) rfl hown (mvT hZ (hw _ (List.mem_of_getElem? (i := 56) rfl))) (mvT hZ (hw _ (List.mem_of_getElem? (i := 41) rfl))) (mvT hZ (hw _ (List.mem_of_getElem? (i := 44) rfl))) (by decide) (backOf (W := 0) (rm9 l Z a0 hw [] a1 h0 n0 Z0 ) hZ (hw _ (List.mem_of_getElem? (i := 44) rfl)) (hw _ (List.mem_of_getElem? (i := 43) rfl)) (by decide) (by decide)) (g := (mkF m 1 #[.val (.ref a1), .val v2, .val v3, .val v4, .val v5, .val v6, .val v7, .val v8, .val v9, .val v10, .val v11] [(.ref a1)])) rfl (by rw [hml]; rfl) (Steps.refl _) (a := a1) (argsL := []) (rest := []) (lenOf pd_3 rfl) rfl (by show 2 * 0 + _ ≤ _; exact Nat.le_of_eq rfl) (hb hby d10_1) (fun _ _ => ⟨rfl, e0, (by decide : 0 + 0 ≤ _), (by decide : 0 + 0 ≤ _)⟩)) (c' := 0) (n' := 0) rfl rfl
  obtain ⟨rfl, N1q, e1⟩ := hQ1
  have N1 := Fr.app N0 N1q
  refine own_via st1 ?_
  show own_Go p.tables e below _ (T1.setTop (mkF m 4 #[.val (.ref a1), .val v2, .val v3, .val v4, .val v5, .val v6, .val v7, .val v8, .val v9, .val v10, .val v11] []))
  refine own_go (fun _ => XS.aloadN X1.here hx rfl (hb hby d10_4) rfl rfl) ?_
  show own_Go p.tables e below _ (T1.setTop (mkF m 5 #[.val (.ref a1), .val v2, .val v3, .val v4, .val v5, .val v6, .val v7, .val v8, .val v9, .val v10, .val v11] [(.ref a1)]))
  refine own_go (fun _ => XS.aloadN X1.here hx rfl (hb hby d10_5) rfl r_v2) ?_
  show own_Go p.tables e below _ (T1.setTop (mkF m 6 #[.val (.ref a1), .val v2, .val v3, .val v4, .val v5, .val v6, .val v7, .val v8, .val v9, .val v10, .val v11] [v2, (.ref a1)]))
  obtain ⟨T2, h2, X2, e2, W2, st2⟩ := putF X1 hx hZ hown (host := "") (Or.inl (hw _ (List.mem_of_getElem? (i := 57) rfl))) Via.refl e1 F_ruoloMedico_a1 E_a1 (Or.inr ⟨(hw _ (List.mem_of_getElem? (i := 58) rfl)), rfl, hnm⟩) (hw _ (List.mem_of_getElem? (i := 51) rfl)) (ty := (.object "java/lang/String")) (by decide) (own_narR r_v2) (own_fitR r_v2) (g := (mkF m 6 #[.val (.ref a1), .val v2, .val v3, .val v4, .val v5, .val v6, .val v7, .val v8, .val v9, .val v10, .val v11] [v2, (.ref a1)])) rfl rfl (hb hby d10_6)
  refine own_go st2 ?_
  have Fw2 := F_ruoloMedico_a1.same W2
  have K2 : Keep h0 h2 [a1] := (Keep.refl h0 [a1]).wr W2 (Or.inl (List.mem_of_getElem? (i := 0) rfl))
  have N2 := Fr.snoc X2 N1 g_a1
  show own_Go p.tables e below _ (T2.setTop (mkF m 9 #[.val (.ref a1), .val v2, .val v3, .val v4, .val v5, .val v6, .val v7, .val v8, .val v9, .val v10, .val v11] []))
  refine own_go (fun _ => XS.aloadN X2.here hx rfl (hb hby d10_9) rfl rfl) ?_
  show own_Go p.tables e below _ (T2.setTop (mkF m 10 #[.val (.ref a1), .val v2, .val v3, .val v4, .val v5, .val v6, .val v7, .val v8, .val v9, .val v10, .val v11] [(.ref a1)]))
  refine own_go (fun _ => XS.aloadN X2.here hx rfl (hb hby d10_10) rfl r_v3) ?_
  show own_Go p.tables e below _ (T2.setTop (mkF m 11 #[.val (.ref a1), .val v2, .val v3, .val v4, .val v5, .val v6, .val v7, .val v8, .val v9, .val v10, .val v11] [v3, (.ref a1)]))
  obtain ⟨T3, h3, X3, e3, W3, st3⟩ := putF X2 hx hZ hown (host := "") (Or.inl (hw _ (List.mem_of_getElem? (i := 59) rfl))) Via.refl e2 (F_dataRilascio_a1.other W2 (Or.inr (slot_ne (Or.inr (hw _ (List.mem_of_getElem? (i := 60) rfl))) (Or.inr (hw _ (List.mem_of_getElem? (i := 58) rfl))) (by decide) (t := (.object "java/lang/String")) (t' := (.object "java/lang/String")) (by decide) (by decide)))) (E_a1.wr W2) (Or.inr ⟨(hw _ (List.mem_of_getElem? (i := 60) rfl)), rfl, hnm⟩) (hw _ (List.mem_of_getElem? (i := 51) rfl)) (ty := (.object "java/lang/String")) (by decide) (own_narR r_v3) (own_fitR r_v3) (g := (mkF m 11 #[.val (.ref a1), .val v2, .val v3, .val v4, .val v5, .val v6, .val v7, .val v8, .val v9, .val v10, .val v11] [v3, (.ref a1)])) rfl rfl (hb hby d10_11)
  refine own_go st3 ?_
  have Fw3 := (F_dataRilascio_a1.other W2 (Or.inr (slot_ne (Or.inr (hw _ (List.mem_of_getElem? (i := 60) rfl))) (Or.inr (hw _ (List.mem_of_getElem? (i := 58) rfl))) (by decide) (t := (.object "java/lang/String")) (t' := (.object "java/lang/String")) (by decide) (by decide)))).same W3
  have K3 : Keep h0 h3 [a1] := K2.wr W3 (Or.inl (List.mem_of_getElem? (i := 0) rfl))
  have N3 := Fr.snoc X3 N2 g_a1
  show own_Go p.tables e below _ (T3.setTop (mkF m 14 #[.val (.ref a1), .val v2, .val v3, .val v4, .val v5, .val v6, .val v7, .val v8, .val v9, .val v10, .val v11] []))
  refine own_go (fun _ => XS.aloadN X3.here hx rfl (hb hby d10_14) rfl rfl) ?_
  show own_Go p.tables e below _ (T3.setTop (mkF m 15 #[.val (.ref a1), .val v2, .val v3, .val v4, .val v5, .val v6, .val v7, .val v8, .val v9, .val v10, .val v11] [(.ref a1)]))
  refine own_go (fun _ => XS.aloadN X3.here hx rfl (hb hby d10_15) rfl r_v4) ?_
  show own_Go p.tables e below _ (T3.setTop (mkF m 16 #[.val (.ref a1), .val v2, .val v3, .val v4, .val v5, .val v6, .val v7, .val v8, .val v9, .val v10, .val v11] [v4, (.ref a1)]))
  obtain ⟨T4, h4, X4, e4, W4, st4⟩ := putF X3 hx hZ hown (host := "") (Or.inl (hw _ (List.mem_of_getElem? (i := 61) rfl))) Via.refl e3 ((F_dataInizio_a1.other W2 (Or.inr (slot_ne (Or.inr (hw _ (List.mem_of_getElem? (i := 62) rfl))) (Or.inr (hw _ (List.mem_of_getElem? (i := 58) rfl))) (by decide) (t := (.object "java/lang/String")) (t' := (.object "java/lang/String")) (by decide) (by decide)))).other W3 (Or.inr (slot_ne (Or.inr (hw _ (List.mem_of_getElem? (i := 62) rfl))) (Or.inr (hw _ (List.mem_of_getElem? (i := 60) rfl))) (by decide) (t := (.object "java/lang/String")) (t' := (.object "java/lang/String")) (by decide) (by decide)))) ((E_a1.wr W2).wr W3) (Or.inr ⟨(hw _ (List.mem_of_getElem? (i := 62) rfl)), rfl, hnm⟩) (hw _ (List.mem_of_getElem? (i := 51) rfl)) (ty := (.object "java/lang/String")) (by decide) (own_narR r_v4) (own_fitR r_v4) (g := (mkF m 16 #[.val (.ref a1), .val v2, .val v3, .val v4, .val v5, .val v6, .val v7, .val v8, .val v9, .val v10, .val v11] [v4, (.ref a1)])) rfl rfl (hb hby d10_16)
  refine own_go st4 ?_
  have Fw4 := ((F_dataInizio_a1.other W2 (Or.inr (slot_ne (Or.inr (hw _ (List.mem_of_getElem? (i := 62) rfl))) (Or.inr (hw _ (List.mem_of_getElem? (i := 58) rfl))) (by decide) (t := (.object "java/lang/String")) (t' := (.object "java/lang/String")) (by decide) (by decide)))).other W3 (Or.inr (slot_ne (Or.inr (hw _ (List.mem_of_getElem? (i := 62) rfl))) (Or.inr (hw _ (List.mem_of_getElem? (i := 60) rfl))) (by decide) (t := (.object "java/lang/String")) (t' := (.object "java/lang/String")) (by decide) (by decide)))).same W4
  have K4 : Keep h0 h4 [a1] := K3.wr W4 (Or.inl (List.mem_of_getElem? (i := 0) rfl))
  have N4 := Fr.snoc X4 N3 g_a1
  show own_Go p.tables e below _ (T4.setTop (mkF m 19 #[.val (.ref a1), .val v2, .val v3, .val v4, .val v5, .val v6, .val v7, .val v8, .val v9, .val v10, .val v11] []))
  refine own_go (fun _ => XS.aloadN X4.here hx rfl (hb hby d10_19) rfl rfl) ?_
  show own_Go p.tables e below _ (T4.setTop (mkF m 20 #[.val (.ref a1), .val v2, .val v3, .val v4, .val v5, .val v6, .val v7, .val v8, .val v9, .val v10, .val v11] [(.ref a1)]))
  refine own_go (fun _ => XS.aload X4.here hx rfl (hb hby d10_20) rfl r_v5) ?_
  show own_Go p.tables e below _ (T4.setTop (mkF m 22 #[.val (.ref a1), .val v2, .val v3, .val v4, .val v5, .val v6, .val v7, .val v8, .val v9, .val v10, .val v11] [v5, (.ref a1)]))
  obtain ⟨T5, h5, X5, e5, W5, st5⟩ := putF X4 hx hZ hown (host := "") (Or.inl (hw _ (List.mem_of_getElem? (i := 63) rfl))) Via.refl e4 (((F_dataFine_a1.other W2 (Or.inr (slot_ne (Or.inr (hw _ (List.mem_of_getElem? (i := 64) rfl))) (Or.inr (hw _ (List.mem_of_getElem? (i := 58) rfl))) (by decide) (t := (.object "java/lang/String")) (t' := (.object "java/lang/String")) (by decide) (by decide)))).other W3 (Or.inr (slot_ne (Or.inr (hw _ (List.mem_of_getElem? (i := 64) rfl))) (Or.inr (hw _ (List.mem_of_getElem? (i := 60) rfl))) (by decide) (t := (.object "java/lang/String")) (t' := (.object "java/lang/String")) (by decide) (by decide)))).other W4 (Or.inr (slot_ne (Or.inr (hw _ (List.mem_of_getElem? (i := 64) rfl))) (Or.inr (hw _ (List.mem_of_getElem? (i := 62) rfl))) (by decide) (t := (.object "java/lang/String")) (t' := (.object "java/lang/String")) (by decide) (by decide)))) (((E_a1.wr W2).wr W3).wr W4) (Or.inr ⟨(hw _ (List.mem_of_getElem? (i := 64) rfl)), rfl, hnm⟩) (hw _ (List.mem_of_getElem? (i := 51) rfl)) (ty := (.object "java/lang/String")) (by decide) (own_narR r_v5) (own_fitR r_v5) (g := (mkF m 22 #[.val (.ref a1), .val v2, .val v3, .val v4, .val v5, .val v6, .val v7, .val v8, .val v9, .val v10, .val v11] [v5, (.ref a1)])) rfl rfl (hb hby d10_22)
  refine own_go st5 ?_
  have Fw5 := (((F_dataFine_a1.other W2 (Or.inr (slot_ne (Or.inr (hw _ (List.mem_of_getElem? (i := 64) rfl))) (Or.inr (hw _ (List.mem_of_getElem? (i := 58) rfl))) (by decide) (t := (.object "java/lang/String")) (t' := (.object "java/lang/String")) (by decide) (by decide)))).other W3 (Or.inr (slot_ne (Or.inr (hw _ (List.mem_of_getElem? (i := 64) rfl))) (Or.inr (hw _ (List.mem_of_getElem? (i := 60) rfl))) (by decide) (t := (.object "java/lang/String")) (t' := (.object "java/lang/String")) (by decide) (by decide)))).other W4 (Or.inr (slot_ne (Or.inr (hw _ (List.mem_of_getElem? (i := 64) rfl))) (Or.inr (hw _ (List.mem_of_getElem? (i := 62) rfl))) (by decide) (t := (.object "java/lang/String")) (t' := (.object "java/lang/String")) (by decide) (by decide)))).same W5
  have K5 : Keep h0 h5 [a1] := K4.wr W5 (Or.inl (List.mem_of_getElem? (i := 0) rfl))
  have N5 := Fr.snoc X5 N4 g_a1
  show own_Go p.tables e below _ (T5.setTop (mkF m 25 #[.val (.ref a1), .val v2, .val v3, .val v4, .val v5, .val v6, .val v7, .val v8, .val v9, .val v10, .val v11] []))
  refine own_go (fun _ => XS.aloadN X5.here hx rfl (hb hby d10_25) rfl rfl) ?_
  show own_Go p.tables e below _ (T5.setTop (mkF m 26 #[.val (.ref a1), .val v2, .val v3, .val v4, .val v5, .val v6, .val v7, .val v8, .val v9, .val v10, .val v11] [(.ref a1)]))
  refine own_go (fun _ => XS.aload X5.here hx rfl (hb hby d10_26) rfl r_v6) ?_
  show own_Go p.tables e below _ (T5.setTop (mkF m 28 #[.val (.ref a1), .val v2, .val v3, .val v4, .val v5, .val v6, .val v7, .val v8, .val v9, .val v10, .val v11] [v6, (.ref a1)]))
  obtain ⟨T6, h6, X6, e6, W6, st6⟩ := putF X5 hx hZ hown (host := "") (Or.inl (hw _ (List.mem_of_getElem? (i := 65) rfl))) Via.refl e5 ((((F_visita_a1.other W2 (Or.inr (slot_ne (Or.inr (hw _ (List.mem_of_getElem? (i := 66) rfl))) (Or.inr (hw _ (List.mem_of_getElem? (i := 58) rfl))) (by decide) (t := (.object "java/lang/String")) (t' := (.object "java/lang/String")) (by decide) (by decide)))).other W3 (Or.inr (slot_ne (Or.inr (hw _ (List.mem_of_getElem? (i := 66) rfl))) (Or.inr (hw _ (List.mem_of_getElem? (i := 60) rfl))) (by decide) (t := (.object "java/lang/String")) (t' := (.object "java/lang/String")) (by decide) (by decide)))).other W4 (Or.inr (slot_ne (Or.inr (hw _ (List.mem_of_getElem? (i := 66) rfl))) (Or.inr (hw _ (List.mem_of_getElem? (i := 62) rfl))) (by decide) (t := (.object "java/lang/String")) (t' := (.object "java/lang/String")) (by decide) (by decide)))).other W5 (Or.inr (slot_ne (Or.inr (hw _ (List.mem_of_getElem? (i := 66) rfl))) (Or.inr (hw _ (List.mem_of_getElem? (i := 64) rfl))) (by decide) (t := (.object "java/lang/String")) (t' := (.object "java/lang/String")) (by decide) (by decide)))) ((((E_a1.wr W2).wr W3).wr W4).wr W5) (Or.inr ⟨(hw _ (List.mem_of_getElem? (i := 66) rfl)), rfl, hnm⟩) (hw _ (List.mem_of_getElem? (i := 51) rfl)) (ty := (.object "java/lang/String")) (by decide) (own_narR r_v6) (own_fitR r_v6) (g := (mkF m 28 #[.val (.ref a1), .val v2, .val v3, .val v4, .val v5, .val v6, .val v7, .val v8, .val v9, .val v10, .val v11] [v6, (.ref a1)])) rfl rfl (hb hby d10_28)
  refine own_go st6 ?_
  have Fw6 := ((((F_visita_a1.other W2 (Or.inr (slot_ne (Or.inr (hw _ (List.mem_of_getElem? (i := 66) rfl))) (Or.inr (hw _ (List.mem_of_getElem? (i := 58) rfl))) (by decide) (t := (.object "java/lang/String")) (t' := (.object "java/lang/String")) (by decide) (by decide)))).other W3 (Or.inr (slot_ne (Or.inr (hw _ (List.mem_of_getElem? (i := 66) rfl))) (Or.inr (hw _ (List.mem_of_getElem? (i := 60) rfl))) (by decide) (t := (.object "java/lang/String")) (t' := (.object "java/lang/String")) (by decide) (by decide)))).other W4 (Or.inr (slot_ne (Or.inr (hw _ (List.mem_of_getElem? (i := 66) rfl))) (Or.inr (hw _ (List.mem_of_getElem? (i := 62) rfl))) (by decide) (t := (.object "java/lang/String")) (t' := (.object "java/lang/String")) (by decide) (by decide)))).other W5 (Or.inr (slot_ne (Or.inr (hw _ (List.mem_of_getElem? (i := 66) rfl))) (Or.inr (hw _ (List.mem_of_getElem? (i := 64) rfl))) (by decide) (t := (.object "java/lang/String")) (t' := (.object "java/lang/String")) (by decide) (by decide)))).same W6
  have K6 : Keep h0 h6 [a1] := K5.wr W6 (Or.inl (List.mem_of_getElem? (i := 0) rfl))
  have N6 := Fr.snoc X6 N5 g_a1
  show own_Go p.tables e below _ (T6.setTop (mkF m 31 #[.val (.ref a1), .val v2, .val v3, .val v4, .val v5, .val v6, .val v7, .val v8, .val v9, .val v10, .val v11] []))
  refine own_go (fun _ => XS.aloadN X6.here hx rfl (hb hby d10_31) rfl rfl) ?_
  show own_Go p.tables e below _ (T6.setTop (mkF m 32 #[.val (.ref a1), .val v2, .val v3, .val v4, .val v5, .val v6, .val v7, .val v8, .val v9, .val v10, .val v11] [(.ref a1)]))
  refine own_go (fun _ => XS.aload X6.here hx rfl (hb hby d10_32) rfl r_v7) ?_
  show own_Go p.tables e below _ (T6.setTop (mkF m 34 #[.val (.ref a1), .val v2, .val v3, .val v4, .val v5, .val v6, .val v7, .val v8, .val v9, .val v10, .val v11] [v7, (.ref a1)]))
  obtain ⟨T7, h7, X7, e7, W7, st7⟩ := putF X6 hx hZ hown (host := "") (Or.inl (hw _ (List.mem_of_getElem? (i := 67) rfl))) Via.refl e6 (((((F_tipoCertificato_a1.other W2 (Or.inr (slot_ne (Or.inr (hw _ (List.mem_of_getElem? (i := 68) rfl))) (Or.inr (hw _ (List.mem_of_getElem? (i := 58) rfl))) (by decide) (t := (.object "java/lang/String")) (t' := (.object "java/lang/String")) (by decide) (by decide)))).other W3 (Or.inr (slot_ne (Or.inr (hw _ (List.mem_of_getElem? (i := 68) rfl))) (Or.inr (hw _ (List.mem_of_getElem? (i := 60) rfl))) (by decide) (t := (.object "java/lang/String")) (t' := (.object "java/lang/String")) (by decide) (by decide)))).other W4 (Or.inr (slot_ne (Or.inr (hw _ (List.mem_of_getElem? (i := 68) rfl))) (Or.inr (hw _ (List.mem_of_getElem? (i := 62) rfl))) (by decide) (t := (.object "java/lang/String")) (t' := (.object "java/lang/String")) (by decide) (by decide)))).other W5 (Or.inr (slot_ne (Or.inr (hw _ (List.mem_of_getElem? (i := 68) rfl))) (Or.inr (hw _ (List.mem_of_getElem? (i := 64) rfl))) (by decide) (t := (.object "java/lang/String")) (t' := (.object "java/lang/String")) (by decide) (by decide)))).other W6 (Or.inr (slot_ne (Or.inr (hw _ (List.mem_of_getElem? (i := 68) rfl))) (Or.inr (hw _ (List.mem_of_getElem? (i := 66) rfl))) (by decide) (t := (.object "java/lang/String")) (t' := (.object "java/lang/String")) (by decide) (by decide)))) (((((E_a1.wr W2).wr W3).wr W4).wr W5).wr W6) (Or.inr ⟨(hw _ (List.mem_of_getElem? (i := 68) rfl)), rfl, hnm⟩) (hw _ (List.mem_of_getElem? (i := 51) rfl)) (ty := (.object "java/lang/String")) (by decide) (own_narR r_v7) (own_fitR r_v7) (g := (mkF m 34 #[.val (.ref a1), .val v2, .val v3, .val v4, .val v5, .val v6, .val v7, .val v8, .val v9, .val v10, .val v11] [v7, (.ref a1)])) rfl rfl (hb hby d10_34)
  refine own_go st7 ?_
  have Fw7 := (((((F_tipoCertificato_a1.other W2 (Or.inr (slot_ne (Or.inr (hw _ (List.mem_of_getElem? (i := 68) rfl))) (Or.inr (hw _ (List.mem_of_getElem? (i := 58) rfl))) (by decide) (t := (.object "java/lang/String")) (t' := (.object "java/lang/String")) (by decide) (by decide)))).other W3 (Or.inr (slot_ne (Or.inr (hw _ (List.mem_of_getElem? (i := 68) rfl))) (Or.inr (hw _ (List.mem_of_getElem? (i := 60) rfl))) (by decide) (t := (.object "java/lang/String")) (t' := (.object "java/lang/String")) (by decide) (by decide)))).other W4 (Or.inr (slot_ne (Or.inr (hw _ (List.mem_of_getElem? (i := 68) rfl))) (Or.inr (hw _ (List.mem_of_getElem? (i := 62) rfl))) (by decide) (t := (.object "java/lang/String")) (t' := (.object "java/lang/String")) (by decide) (by decide)))).other W5 (Or.inr (slot_ne (Or.inr (hw _ (List.mem_of_getElem? (i := 68) rfl))) (Or.inr (hw _ (List.mem_of_getElem? (i := 64) rfl))) (by decide) (t := (.object "java/lang/String")) (t' := (.object "java/lang/String")) (by decide) (by decide)))).other W6 (Or.inr (slot_ne (Or.inr (hw _ (List.mem_of_getElem? (i := 68) rfl))) (Or.inr (hw _ (List.mem_of_getElem? (i := 66) rfl))) (by decide) (t := (.object "java/lang/String")) (t' := (.object "java/lang/String")) (by decide) (by decide)))).same W7
  have K7 : Keep h0 h7 [a1] := K6.wr W7 (Or.inl (List.mem_of_getElem? (i := 0) rfl))
  have N7 := Fr.snoc X7 N6 g_a1
  show own_Go p.tables e below _ (T7.setTop (mkF m 37 #[.val (.ref a1), .val v2, .val v3, .val v4, .val v5, .val v6, .val v7, .val v8, .val v9, .val v10, .val v11] []))
  refine own_go (fun _ => XS.aloadN X7.here hx rfl (hb hby d10_37) rfl rfl) ?_
  show own_Go p.tables e below _ (T7.setTop (mkF m 38 #[.val (.ref a1), .val v2, .val v3, .val v4, .val v5, .val v6, .val v7, .val v8, .val v9, .val v10, .val v11] [(.ref a1)]))
  refine own_go (fun _ => XS.aload X7.here hx rfl (hb hby d10_38) rfl r_v8) ?_
  show own_Go p.tables e below _ (T7.setTop (mkF m 40 #[.val (.ref a1), .val v2, .val v3, .val v4, .val v5, .val v6, .val v7, .val v8, .val v9, .val v10, .val v11] [v8, (.ref a1)]))
  obtain ⟨T8, h8, X8, e8, W8, st8⟩ := putF X7 hx hZ hown (host := "") (Or.inl (hw _ (List.mem_of_getElem? (i := 69) rfl))) Via.refl e7 ((((((F_diagnosi_a1.other W2 (Or.inr (slot_ne (Or.inr (hw _ (List.mem_of_getElem? (i := 70) rfl))) (Or.inr (hw _ (List.mem_of_getElem? (i := 58) rfl))) (by decide) (t := (.object "com/example/attesta/attesta/contract/Diagnosi")) (t' := (.object "java/lang/String")) (by decide) (by decide)))).other W3 (Or.inr (slot_ne (Or.inr (hw _ (List.mem_of_getElem? (i := 70) rfl))) (Or.inr (hw _ (List.mem_of_getElem? (i := 60) rfl))) (by decide) (t := (.object "com/example/attesta/attesta/contract/Diagnosi")) (t' := (.object "java/lang/String")) (by decide) (by decide)))).other W4 (Or.inr (slot_ne (Or.inr (hw _ (List.mem_of_getElem? (i := 70) rfl))) (Or.inr (hw _ (List.mem_of_getElem? (i := 62) rfl))) (by decide) (t := (.object "com/example/attesta/attesta/contract/Diagnosi")) (t' := (.object "java/lang/String")) (by decide) (by decide)))).other W5 (Or.inr (slot_ne (Or.inr (hw _ (List.mem_of_getElem? (i := 70) rfl))) (Or.inr (hw _ (List.mem_of_getElem? (i := 64) rfl))) (by decide) (t := (.object "com/example/attesta/attesta/contract/Diagnosi")) (t' := (.object "java/lang/String")) (by decide) (by decide)))).other W6 (Or.inr (slot_ne (Or.inr (hw _ (List.mem_of_getElem? (i := 70) rfl))) (Or.inr (hw _ (List.mem_of_getElem? (i := 66) rfl))) (by decide) (t := (.object "com/example/attesta/attesta/contract/Diagnosi")) (t' := (.object "java/lang/String")) (by decide) (by decide)))).other W7 (Or.inr (slot_ne (Or.inr (hw _ (List.mem_of_getElem? (i := 70) rfl))) (Or.inr (hw _ (List.mem_of_getElem? (i := 68) rfl))) (by decide) (t := (.object "com/example/attesta/attesta/contract/Diagnosi")) (t' := (.object "java/lang/String")) (by decide) (by decide)))) ((((((E_a1.wr W2).wr W3).wr W4).wr W5).wr W6).wr W7) (Or.inr ⟨(hw _ (List.mem_of_getElem? (i := 70) rfl)), rfl, hnm⟩) (hw _ (List.mem_of_getElem? (i := 51) rfl)) (ty := (.object "com/example/attesta/attesta/contract/Diagnosi")) (by decide) (own_narR r_v8) (own_fitR r_v8) (g := (mkF m 40 #[.val (.ref a1), .val v2, .val v3, .val v4, .val v5, .val v6, .val v7, .val v8, .val v9, .val v10, .val v11] [v8, (.ref a1)])) rfl rfl (hb hby d10_40)
  refine own_go st8 ?_
  have Fw8 := ((((((F_diagnosi_a1.other W2 (Or.inr (slot_ne (Or.inr (hw _ (List.mem_of_getElem? (i := 70) rfl))) (Or.inr (hw _ (List.mem_of_getElem? (i := 58) rfl))) (by decide) (t := (.object "com/example/attesta/attesta/contract/Diagnosi")) (t' := (.object "java/lang/String")) (by decide) (by decide)))).other W3 (Or.inr (slot_ne (Or.inr (hw _ (List.mem_of_getElem? (i := 70) rfl))) (Or.inr (hw _ (List.mem_of_getElem? (i := 60) rfl))) (by decide) (t := (.object "com/example/attesta/attesta/contract/Diagnosi")) (t' := (.object "java/lang/String")) (by decide) (by decide)))).other W4 (Or.inr (slot_ne (Or.inr (hw _ (List.mem_of_getElem? (i := 70) rfl))) (Or.inr (hw _ (List.mem_of_getElem? (i := 62) rfl))) (by decide) (t := (.object "com/example/attesta/attesta/contract/Diagnosi")) (t' := (.object "java/lang/String")) (by decide) (by decide)))).other W5 (Or.inr (slot_ne (Or.inr (hw _ (List.mem_of_getElem? (i := 70) rfl))) (Or.inr (hw _ (List.mem_of_getElem? (i := 64) rfl))) (by decide) (t := (.object "com/example/attesta/attesta/contract/Diagnosi")) (t' := (.object "java/lang/String")) (by decide) (by decide)))).other W6 (Or.inr (slot_ne (Or.inr (hw _ (List.mem_of_getElem? (i := 70) rfl))) (Or.inr (hw _ (List.mem_of_getElem? (i := 66) rfl))) (by decide) (t := (.object "com/example/attesta/attesta/contract/Diagnosi")) (t' := (.object "java/lang/String")) (by decide) (by decide)))).other W7 (Or.inr (slot_ne (Or.inr (hw _ (List.mem_of_getElem? (i := 70) rfl))) (Or.inr (hw _ (List.mem_of_getElem? (i := 68) rfl))) (by decide) (t := (.object "com/example/attesta/attesta/contract/Diagnosi")) (t' := (.object "java/lang/String")) (by decide) (by decide)))).same W8
  have K8 : Keep h0 h8 [a1] := K7.wr W8 (Or.inl (List.mem_of_getElem? (i := 0) rfl))
  have N8 := Fr.snoc X8 N7 g_a1
  show own_Go p.tables e below _ (T8.setTop (mkF m 43 #[.val (.ref a1), .val v2, .val v3, .val v4, .val v5, .val v6, .val v7, .val v8, .val v9, .val v10, .val v11] []))
  refine own_go (fun _ => XS.aloadN X8.here hx rfl (hb hby d10_43) rfl rfl) ?_
  show own_Go p.tables e below _ (T8.setTop (mkF m 44 #[.val (.ref a1), .val v2, .val v3, .val v4, .val v5, .val v6, .val v7, .val v8, .val v9, .val v10, .val v11] [(.ref a1)]))
  refine own_go (fun _ => XS.aload X8.here hx rfl (hb hby d10_44) rfl r_v9) ?_
  show own_Go p.tables e below _ (T8.setTop (mkF m 46 #[.val (.ref a1), .val v2, .val v3, .val v4, .val v5, .val v6, .val v7, .val v8, .val v9, .val v10, .val v11] [v9, (.ref a1)]))
  obtain ⟨T9, h9, X9, e9, W9, st9⟩ := putF X8 hx hZ hown (host := "") (Or.inl (hw _ (List.mem_of_getElem? (i := 71) rfl))) Via.refl e8 (((((((F_giornataLavorata_a1.other W2 (Or.inr (slot_ne (Or.inr (hw _ (List.mem_of_getElem? (i := 72) rfl))) (Or.inr (hw _ (List.mem_of_getElem? (i := 58) rfl))) (by decide) (t := (.object "java/lang/String")) (t' := (.object "java/lang/String")) (by decide) (by decide)))).other W3 (Or.inr (slot_ne (Or.inr (hw _ (List.mem_of_getElem? (i := 72) rfl))) (Or.inr (hw _ (List.mem_of_getElem? (i := 60) rfl))) (by decide) (t := (.object "java/lang/String")) (t' := (.object "java/lang/String")) (by decide) (by decide)))).other W4 (Or.inr (slot_ne (Or.inr (hw _ (List.mem_of_getElem? (i := 72) rfl))) (Or.inr (hw _ (List.mem_of_getElem? (i := 62) rfl))) (by decide) (t := (.object "java/lang/String")) (t' := (.object "java/lang/String")) (by decide) (by decide)))).other W5 (Or.inr (slot_ne (Or.inr (hw _ (List.mem_of_getElem? (i := 72) rfl))) (Or.inr (hw _ (List.mem_of_getElem? (i := 64) rfl))) (by decide) (t := (.object "java/lang/String")) (t' := (.object "java/lang/String")) (by decide) (by decide)))).other W6 (Or.inr (slot_ne (Or.inr (hw _ (List.mem_of_getElem? (i := 72) rfl))) (Or.inr (hw _ (List.mem_of_getElem? (i := 66) rfl))) (by decide) (t := (.object "java/lang/String")) (t' := (.object "java/lang/String")) (by decide) (by decide)))).other W7 (Or.inr (slot_ne (Or.inr (hw _ (List.mem_of_getElem? (i := 72) rfl))) (Or.inr (hw _ (List.mem_of_getElem? (i := 68) rfl))) (by decide) (t := (.object "java/lang/String")) (t' := (.object "java/lang/String")) (by decide) (by decide)))).other W8 (Or.inr (slot_ne (Or.inr (hw _ (List.mem_of_getElem? (i := 72) rfl))) (Or.inr (hw _ (List.mem_of_getElem? (i := 70) rfl))) (by decide) (t := (.object "java/lang/String")) (t' := (.object "com/example/attesta/attesta/contract/Diagnosi")) (by decide) (by decide)))) (((((((E_a1.wr W2).wr W3).wr W4).wr W5).wr W6).wr W7).wr W8) (Or.inr ⟨(hw _ (List.mem_of_getElem? (i := 72) rfl)), rfl, hnm⟩) (hw _ (List.mem_of_getElem? (i := 51) rfl)) (ty := (.object "java/lang/String")) (by decide) (own_narR r_v9) (own_fitR r_v9) (g := (mkF m 46 #[.val (.ref a1), .val v2, .val v3, .val v4, .val v5, .val v6, .val v7, .val v8, .val v9, .val v10, .val v11] [v9, (.ref a1)])) rfl rfl (hb hby d10_46)
  refine own_go st9 ?_
  have Fw9 := (((((((F_giornataLavorata_a1.other W2 (Or.inr (slot_ne (Or.inr (hw _ (List.mem_of_getElem? (i := 72) rfl))) (Or.inr (hw _ (List.mem_of_getElem? (i := 58) rfl))) (by decide) (t := (.object "java/lang/String")) (t' := (.object "java/lang/String")) (by decide) (by decide)))).other W3 (Or.inr (slot_ne (Or.inr (hw _ (List.mem_of_getElem? (i := 72) rfl))) (Or.inr (hw _ (List.mem_of_getElem? (i := 60) rfl))) (by decide) (t := (.object "java/lang/String")) (t' := (.object "java/lang/String")) (by decide) (by decide)))).other W4 (Or.inr (slot_ne (Or.inr (hw _ (List.mem_of_getElem? (i := 72) rfl))) (Or.inr (hw _ (List.mem_of_getElem? (i := 62) rfl))) (by decide) (t := (.object "java/lang/String")) (t' := (.object "java/lang/String")) (by decide) (by decide)))).other W5 (Or.inr (slot_ne (Or.inr (hw _ (List.mem_of_getElem? (i := 72) rfl))) (Or.inr (hw _ (List.mem_of_getElem? (i := 64) rfl))) (by decide) (t := (.object "java/lang/String")) (t' := (.object "java/lang/String")) (by decide) (by decide)))).other W6 (Or.inr (slot_ne (Or.inr (hw _ (List.mem_of_getElem? (i := 72) rfl))) (Or.inr (hw _ (List.mem_of_getElem? (i := 66) rfl))) (by decide) (t := (.object "java/lang/String")) (t' := (.object "java/lang/String")) (by decide) (by decide)))).other W7 (Or.inr (slot_ne (Or.inr (hw _ (List.mem_of_getElem? (i := 72) rfl))) (Or.inr (hw _ (List.mem_of_getElem? (i := 68) rfl))) (by decide) (t := (.object "java/lang/String")) (t' := (.object "java/lang/String")) (by decide) (by decide)))).other W8 (Or.inr (slot_ne (Or.inr (hw _ (List.mem_of_getElem? (i := 72) rfl))) (Or.inr (hw _ (List.mem_of_getElem? (i := 70) rfl))) (by decide) (t := (.object "java/lang/String")) (t' := (.object "com/example/attesta/attesta/contract/Diagnosi")) (by decide) (by decide)))).same W9
  have K9 : Keep h0 h9 [a1] := K8.wr W9 (Or.inl (List.mem_of_getElem? (i := 0) rfl))
  have N9 := Fr.snoc X9 N8 g_a1
  show own_Go p.tables e below _ (T9.setTop (mkF m 49 #[.val (.ref a1), .val v2, .val v3, .val v4, .val v5, .val v6, .val v7, .val v8, .val v9, .val v10, .val v11] []))
  refine own_go (fun _ => XS.aloadN X9.here hx rfl (hb hby d10_49) rfl rfl) ?_
  show own_Go p.tables e below _ (T9.setTop (mkF m 50 #[.val (.ref a1), .val v2, .val v3, .val v4, .val v5, .val v6, .val v7, .val v8, .val v9, .val v10, .val v11] [(.ref a1)]))
  refine own_go (fun _ => XS.aload X9.here hx rfl (hb hby d10_50) rfl r_v10) ?_
  show own_Go p.tables e below _ (T9.setTop (mkF m 52 #[.val (.ref a1), .val v2, .val v3, .val v4, .val v5, .val v6, .val v7, .val v8, .val v9, .val v10, .val v11] [v10, (.ref a1)]))
  obtain ⟨T10, h10, X10, e10, W10, st10⟩ := putF X9 hx hZ hown (host := "") (Or.inl (hw _ (List.mem_of_getElem? (i := 73) rfl))) Via.refl e9 ((((((((F_trauma_a1.other W2 (Or.inr (slot_ne (Or.inr (hw _ (List.mem_of_getElem? (i := 74) rfl))) (Or.inr (hw _ (List.mem_of_getElem? (i := 58) rfl))) (by decide) (t := (.object "java/lang/String")) (t' := (.object "java/lang/String")) (by decide) (by decide)))).other W3 (Or.inr (slot_ne (Or.inr (hw _ (List.mem_of_getElem? (i := 74) rfl))) (Or.inr (hw _ (List.mem_of_getElem? (i := 60) rfl))) (by decide) (t := (.object "java/lang/String")) (t' := (.object "java/lang/String")) (by decide) (by decide)))).other W4 (Or.inr (slot_ne (Or.inr (hw _ (List.mem_of_getElem? (i := 74) rfl))) (Or.inr (hw _ (List.mem_of_getElem? (i := 62) rfl))) (by decide) (t := (.object "java/lang/String")) (t' := (.object "java/lang/String")) (by decide) (by decide)))).other W5 (Or.inr (slot_ne (Or.inr (hw _ (List.mem_of_getElem? (i := 74) rfl))) (Or.inr (hw _ (List.mem_of_getElem? (i := 64) rfl))) (by decide) (t := (.object "java/lang/String")) (t' := (.object "java/lang/String")) (by decide) (by decide)))).other W6 (Or.inr (slot_ne (Or.inr (hw _ (List.mem_of_getElem? (i := 74) rfl))) (Or.inr (hw _ (List.mem_of_getElem? (i := 66) rfl))) (by decide) (t := (.object "java/lang/String")) (t' := (.object "java/lang/String")) (by decide) (by decide)))).other W7 (Or.inr (slot_ne (Or.inr (hw _ (List.mem_of_getElem? (i := 74) rfl))) (Or.inr (hw _ (List.mem_of_getElem? (i := 68) rfl))) (by decide) (t := (.object "java/lang/String")) (t' := (.object "java/lang/String")) (by decide) (by decide)))).other W8 (Or.inr (slot_ne (Or.inr (hw _ (List.mem_of_getElem? (i := 74) rfl))) (Or.inr (hw _ (List.mem_of_getElem? (i := 70) rfl))) (by decide) (t := (.object "java/lang/String")) (t' := (.object "com/example/attesta/attesta/contract/Diagnosi")) (by decide) (by decide)))).other W9 (Or.inr (slot_ne (Or.inr (hw _ (List.mem_of_getElem? (i := 74) rfl))) (Or.inr (hw _ (List.mem_of_getElem? (i := 72) rfl))) (by decide) (t := (.object "java/lang/String")) (t' := (.object "java/lang/String")) (by decide) (by decide)))) ((((((((E_a1.wr W2).wr W3).wr W4).wr W5).wr W6).wr W7).wr W8).wr W9) (Or.inr ⟨(hw _ (List.mem_of_getElem? (i := 74) rfl)), rfl, hnm⟩) (hw _ (List.mem_of_getElem? (i := 51) rfl)) (ty := (.object "java/lang/String")) (by decide) (own_narR r_v10) (own_fitR r_v10) (g := (mkF m 52 #[.val (.ref a1), .val v2, .val v3, .val v4, .val v5, .val v6, .val v7, .val v8, .val v9, .val v10, .val v11] [v10, (.ref a1)])) rfl rfl (hb hby d10_52)
  refine own_go st10 ?_
  have Fw10 := ((((((((F_trauma_a1.other W2 (Or.inr (slot_ne (Or.inr (hw _ (List.mem_of_getElem? (i := 74) rfl))) (Or.inr (hw _ (List.mem_of_getElem? (i := 58) rfl))) (by decide) (t := (.object "java/lang/String")) (t' := (.object "java/lang/String")) (by decide) (by decide)))).other W3 (Or.inr (slot_ne (Or.inr (hw _ (List.mem_of_getElem? (i := 74) rfl))) (Or.inr (hw _ (List.mem_of_getElem? (i := 60) rfl))) (by decide) (t := (.object "java/lang/String")) (t' := (.object "java/lang/String")) (by decide) (by decide)))).other W4 (Or.inr (slot_ne (Or.inr (hw _ (List.mem_of_getElem? (i := 74) rfl))) (Or.inr (hw _ (List.mem_of_getElem? (i := 62) rfl))) (by decide) (t := (.object "java/lang/String")) (t' := (.object "java/lang/String")) (by decide) (by decide)))).other W5 (Or.inr (slot_ne (Or.inr (hw _ (List.mem_of_getElem? (i := 74) rfl))) (Or.inr (hw _ (List.mem_of_getElem? (i := 64) rfl))) (by decide) (t := (.object "java/lang/String")) (t' := (.object "java/lang/String")) (by decide) (by decide)))).other W6 (Or.inr (slot_ne (Or.inr (hw _ (List.mem_of_getElem? (i := 74) rfl))) (Or.inr (hw _ (List.mem_of_getElem? (i := 66) rfl))) (by decide) (t := (.object "java/lang/String")) (t' := (.object "java/lang/String")) (by decide) (by decide)))).other W7 (Or.inr (slot_ne (Or.inr (hw _ (List.mem_of_getElem? (i := 74) rfl))) (Or.inr (hw _ (List.mem_of_getElem? (i := 68) rfl))) (by decide) (t := (.object "java/lang/String")) (t' := (.object "java/lang/String")) (by decide) (by decide)))).other W8 (Or.inr (slot_ne (Or.inr (hw _ (List.mem_of_getElem? (i := 74) rfl))) (Or.inr (hw _ (List.mem_of_getElem? (i := 70) rfl))) (by decide) (t := (.object "java/lang/String")) (t' := (.object "com/example/attesta/attesta/contract/Diagnosi")) (by decide) (by decide)))).other W9 (Or.inr (slot_ne (Or.inr (hw _ (List.mem_of_getElem? (i := 74) rfl))) (Or.inr (hw _ (List.mem_of_getElem? (i := 72) rfl))) (by decide) (t := (.object "java/lang/String")) (t' := (.object "java/lang/String")) (by decide) (by decide)))).same W10
  have K10 : Keep h0 h10 [a1] := K9.wr W10 (Or.inl (List.mem_of_getElem? (i := 0) rfl))
  have N10 := Fr.snoc X10 N9 g_a1
  show own_Go p.tables e below _ (T10.setTop (mkF m 55 #[.val (.ref a1), .val v2, .val v3, .val v4, .val v5, .val v6, .val v7, .val v8, .val v9, .val v10, .val v11] []))
  refine own_go (fun _ => XS.aloadN X10.here hx rfl (hb hby d10_55) rfl rfl) ?_
  show own_Go p.tables e below _ (T10.setTop (mkF m 56 #[.val (.ref a1), .val v2, .val v3, .val v4, .val v5, .val v6, .val v7, .val v8, .val v9, .val v10, .val v11] [(.ref a1)]))
  refine own_go (fun _ => XS.aload X10.here hx rfl (hb hby d10_56) rfl r_v11) ?_
  show own_Go p.tables e below _ (T10.setTop (mkF m 58 #[.val (.ref a1), .val v2, .val v3, .val v4, .val v5, .val v6, .val v7, .val v8, .val v9, .val v10, .val v11] [v11, (.ref a1)]))
  obtain ⟨T11, h11, X11, e11, W11, st11⟩ := putF X10 hx hZ hown (host := "") (Or.inl (hw _ (List.mem_of_getElem? (i := 75) rfl))) Via.refl e10 (((((((((F_agevolazioni_a1.other W2 (Or.inr (slot_ne (Or.inr (hw _ (List.mem_of_getElem? (i := 76) rfl))) (Or.inr (hw _ (List.mem_of_getElem? (i := 58) rfl))) (by decide) (t := (.object "java/lang/String")) (t' := (.object "java/lang/String")) (by decide) (by decide)))).other W3 (Or.inr (slot_ne (Or.inr (hw _ (List.mem_of_getElem? (i := 76) rfl))) (Or.inr (hw _ (List.mem_of_getElem? (i := 60) rfl))) (by decide) (t := (.object "java/lang/String")) (t' := (.object "java/lang/String")) (by decide) (by decide)))).other W4 (Or.inr (slot_ne (Or.inr (hw _ (List.mem_of_getElem? (i := 76) rfl))) (Or.inr (hw _ (List.mem_of_getElem? (i := 62) rfl))) (by decide) (t := (.object "java/lang/String")) (t' := (.object "java/lang/String")) (by decide) (by decide)))).other W5 (Or.inr (slot_ne (Or.inr (hw _ (List.mem_of_getElem? (i := 76) rfl))) (Or.inr (hw _ (List.mem_of_getElem? (i := 64) rfl))) (by decide) (t := (.object "java/lang/String")) (t' := (.object "java/lang/String")) (by decide) (by decide)))).other W6 (Or.inr (slot_ne (Or.inr (hw _ (List.mem_of_getElem? (i := 76) rfl))) (Or.inr (hw _ (List.mem_of_getElem? (i := 66) rfl))) (by decide) (t := (.object "java/lang/String")) (t' := (.object "java/lang/String")) (by decide) (by decide)))).other W7 (Or.inr (slot_ne (Or.inr (hw _ (List.mem_of_getElem? (i := 76) rfl))) (Or.inr (hw _ (List.mem_of_getElem? (i := 68) rfl))) (by decide) (t := (.object "java/lang/String")) (t' := (.object "java/lang/String")) (by decide) (by decide)))).other W8 (Or.inr (slot_ne (Or.inr (hw _ (List.mem_of_getElem? (i := 76) rfl))) (Or.inr (hw _ (List.mem_of_getElem? (i := 70) rfl))) (by decide) (t := (.object "java/lang/String")) (t' := (.object "com/example/attesta/attesta/contract/Diagnosi")) (by decide) (by decide)))).other W9 (Or.inr (slot_ne (Or.inr (hw _ (List.mem_of_getElem? (i := 76) rfl))) (Or.inr (hw _ (List.mem_of_getElem? (i := 72) rfl))) (by decide) (t := (.object "java/lang/String")) (t' := (.object "java/lang/String")) (by decide) (by decide)))).other W10 (Or.inr (slot_ne (Or.inr (hw _ (List.mem_of_getElem? (i := 76) rfl))) (Or.inr (hw _ (List.mem_of_getElem? (i := 74) rfl))) (by decide) (t := (.object "java/lang/String")) (t' := (.object "java/lang/String")) (by decide) (by decide)))) (((((((((E_a1.wr W2).wr W3).wr W4).wr W5).wr W6).wr W7).wr W8).wr W9).wr W10) (Or.inr ⟨(hw _ (List.mem_of_getElem? (i := 76) rfl)), rfl, hnm⟩) (hw _ (List.mem_of_getElem? (i := 51) rfl)) (ty := (.object "java/lang/String")) (by decide) (own_narR r_v11) (own_fitR r_v11) (g := (mkF m 58 #[.val (.ref a1), .val v2, .val v3, .val v4, .val v5, .val v6, .val v7, .val v8, .val v9, .val v10, .val v11] [v11, (.ref a1)])) rfl rfl (hb hby d10_58)
  refine own_go st11 ?_
  have Fw11 := (((((((((F_agevolazioni_a1.other W2 (Or.inr (slot_ne (Or.inr (hw _ (List.mem_of_getElem? (i := 76) rfl))) (Or.inr (hw _ (List.mem_of_getElem? (i := 58) rfl))) (by decide) (t := (.object "java/lang/String")) (t' := (.object "java/lang/String")) (by decide) (by decide)))).other W3 (Or.inr (slot_ne (Or.inr (hw _ (List.mem_of_getElem? (i := 76) rfl))) (Or.inr (hw _ (List.mem_of_getElem? (i := 60) rfl))) (by decide) (t := (.object "java/lang/String")) (t' := (.object "java/lang/String")) (by decide) (by decide)))).other W4 (Or.inr (slot_ne (Or.inr (hw _ (List.mem_of_getElem? (i := 76) rfl))) (Or.inr (hw _ (List.mem_of_getElem? (i := 62) rfl))) (by decide) (t := (.object "java/lang/String")) (t' := (.object "java/lang/String")) (by decide) (by decide)))).other W5 (Or.inr (slot_ne (Or.inr (hw _ (List.mem_of_getElem? (i := 76) rfl))) (Or.inr (hw _ (List.mem_of_getElem? (i := 64) rfl))) (by decide) (t := (.object "java/lang/String")) (t' := (.object "java/lang/String")) (by decide) (by decide)))).other W6 (Or.inr (slot_ne (Or.inr (hw _ (List.mem_of_getElem? (i := 76) rfl))) (Or.inr (hw _ (List.mem_of_getElem? (i := 66) rfl))) (by decide) (t := (.object "java/lang/String")) (t' := (.object "java/lang/String")) (by decide) (by decide)))).other W7 (Or.inr (slot_ne (Or.inr (hw _ (List.mem_of_getElem? (i := 76) rfl))) (Or.inr (hw _ (List.mem_of_getElem? (i := 68) rfl))) (by decide) (t := (.object "java/lang/String")) (t' := (.object "java/lang/String")) (by decide) (by decide)))).other W8 (Or.inr (slot_ne (Or.inr (hw _ (List.mem_of_getElem? (i := 76) rfl))) (Or.inr (hw _ (List.mem_of_getElem? (i := 70) rfl))) (by decide) (t := (.object "java/lang/String")) (t' := (.object "com/example/attesta/attesta/contract/Diagnosi")) (by decide) (by decide)))).other W9 (Or.inr (slot_ne (Or.inr (hw _ (List.mem_of_getElem? (i := 76) rfl))) (Or.inr (hw _ (List.mem_of_getElem? (i := 72) rfl))) (by decide) (t := (.object "java/lang/String")) (t' := (.object "java/lang/String")) (by decide) (by decide)))).other W10 (Or.inr (slot_ne (Or.inr (hw _ (List.mem_of_getElem? (i := 76) rfl))) (Or.inr (hw _ (List.mem_of_getElem? (i := 74) rfl))) (by decide) (t := (.object "java/lang/String")) (t' := (.object "java/lang/String")) (by decide) (by decide)))).same W11
  have K11 : Keep h0 h11 [a1] := K10.wr W11 (Or.inl (List.mem_of_getElem? (i := 0) rfl))
  have N11 := Fr.snoc X11 N10 g_a1
  show own_Go p.tables e below _ (T11.setTop (mkF m 61 #[.val (.ref a1), .val v2, .val v3, .val v4, .val v5, .val v6, .val v7, .val v8, .val v9, .val v10, .val v11] []))
  refine own_ret0 X11 Bd.notSynchronized hx Bd.returns (hb hby d10_61) (show Q10 Z a1 v2 v3 v4 v5 v6 v7 v8 v9 v10 v11 u_ruoloMedico_a1 u_dataRilascio_a1 u_dataInizio_a1 u_dataFine_a1 u_visita_a1 u_tipoCertificato_a1 u_diagnosi_a1 u_giornataLavorata_a1 u_trauma_a1 u_agevolazioni_a1 h0 n0 _ T11.heap _ from by rw [e11]; exact ⟨rfl, N11, K11, ((((((((((E_a1.wr W2).wr W3).wr W4).wr W5).wr W6).wr W7).wr W8).wr W9).wr W10).wr W11), (((((((((Fw2.other W3 (Or.inr (slot_ne (Or.inr (hw _ (List.mem_of_getElem? (i := 58) rfl))) (Or.inr (hw _ (List.mem_of_getElem? (i := 60) rfl))) (by decide) (t := (.object "java/lang/String")) (t' := (.object "java/lang/String")) (by decide) (by decide)))).other W4 (Or.inr (slot_ne (Or.inr (hw _ (List.mem_of_getElem? (i := 58) rfl))) (Or.inr (hw _ (List.mem_of_getElem? (i := 62) rfl))) (by decide) (t := (.object "java/lang/String")) (t' := (.object "java/lang/String")) (by decide) (by decide)))).other W5 (Or.inr (slot_ne (Or.inr (hw _ (List.mem_of_getElem? (i := 58) rfl))) (Or.inr (hw _ (List.mem_of_getElem? (i := 64) rfl))) (by decide) (t := (.object "java/lang/String")) (t' := (.object "java/lang/String")) (by decide) (by decide)))).other W6 (Or.inr (slot_ne (Or.inr (hw _ (List.mem_of_getElem? (i := 58) rfl))) (Or.inr (hw _ (List.mem_of_getElem? (i := 66) rfl))) (by decide) (t := (.object "java/lang/String")) (t' := (.object "java/lang/String")) (by decide) (by decide)))).other W7 (Or.inr (slot_ne (Or.inr (hw _ (List.mem_of_getElem? (i := 58) rfl))) (Or.inr (hw _ (List.mem_of_getElem? (i := 68) rfl))) (by decide) (t := (.object "java/lang/String")) (t' := (.object "java/lang/String")) (by decide) (by decide)))).other W8 (Or.inr (slot_ne (Or.inr (hw _ (List.mem_of_getElem? (i := 58) rfl))) (Or.inr (hw _ (List.mem_of_getElem? (i := 70) rfl))) (by decide) (t := (.object "java/lang/String")) (t' := (.object "com/example/attesta/attesta/contract/Diagnosi")) (by decide) (by decide)))).other W9 (Or.inr (slot_ne (Or.inr (hw _ (List.mem_of_getElem? (i := 58) rfl))) (Or.inr (hw _ (List.mem_of_getElem? (i := 72) rfl))) (by decide) (t := (.object "java/lang/String")) (t' := (.object "java/lang/String")) (by decide) (by decide)))).other W10 (Or.inr (slot_ne (Or.inr (hw _ (List.mem_of_getElem? (i := 58) rfl))) (Or.inr (hw _ (List.mem_of_getElem? (i := 74) rfl))) (by decide) (t := (.object "java/lang/String")) (t' := (.object "java/lang/String")) (by decide) (by decide)))).other W11 (Or.inr (slot_ne (Or.inr (hw _ (List.mem_of_getElem? (i := 58) rfl))) (Or.inr (hw _ (List.mem_of_getElem? (i := 76) rfl))) (by decide) (t := (.object "java/lang/String")) (t' := (.object "java/lang/String")) (by decide) (by decide)))), ((((((((Fw3.other W4 (Or.inr (slot_ne (Or.inr (hw _ (List.mem_of_getElem? (i := 60) rfl))) (Or.inr (hw _ (List.mem_of_getElem? (i := 62) rfl))) (by decide) (t := (.object "java/lang/String")) (t' := (.object "java/lang/String")) (by decide) (by decide)))).other W5 (Or.inr (slot_ne (Or.inr (hw _ (List.mem_of_getElem? (i := 60) rfl))) (Or.inr (hw _ (List.mem_of_getElem? (i := 64) rfl))) (by decide) (t := (.object "java/lang/String")) (t' := (.object "java/lang/String")) (by decide) (by decide)))).other W6 (Or.inr (slot_ne (Or.inr (hw _ (List.mem_of_getElem? (i := 60) rfl))) (Or.inr (hw _ (List.mem_of_getElem? (i := 66) rfl))) (by decide) (t := (.object "java/lang/String")) (t' := (.object "java/lang/String")) (by decide) (by decide)))).other W7 (Or.inr (slot_ne (Or.inr (hw _ (List.mem_of_getElem? (i := 60) rfl))) (Or.inr (hw _ (List.mem_of_getElem? (i := 68) rfl))) (by decide) (t := (.object "java/lang/String")) (t' := (.object "java/lang/String")) (by decide) (by decide)))).other W8 (Or.inr (slot_ne (Or.inr (hw _ (List.mem_of_getElem? (i := 60) rfl))) (Or.inr (hw _ (List.mem_of_getElem? (i := 70) rfl))) (by decide) (t := (.object "java/lang/String")) (t' := (.object "com/example/attesta/attesta/contract/Diagnosi")) (by decide) (by decide)))).other W9 (Or.inr (slot_ne (Or.inr (hw _ (List.mem_of_getElem? (i := 60) rfl))) (Or.inr (hw _ (List.mem_of_getElem? (i := 72) rfl))) (by decide) (t := (.object "java/lang/String")) (t' := (.object "java/lang/String")) (by decide) (by decide)))).other W10 (Or.inr (slot_ne (Or.inr (hw _ (List.mem_of_getElem? (i := 60) rfl))) (Or.inr (hw _ (List.mem_of_getElem? (i := 74) rfl))) (by decide) (t := (.object "java/lang/String")) (t' := (.object "java/lang/String")) (by decide) (by decide)))).other W11 (Or.inr (slot_ne (Or.inr (hw _ (List.mem_of_getElem? (i := 60) rfl))) (Or.inr (hw _ (List.mem_of_getElem? (i := 76) rfl))) (by decide) (t := (.object "java/lang/String")) (t' := (.object "java/lang/String")) (by decide) (by decide)))), (((((((Fw4.other W5 (Or.inr (slot_ne (Or.inr (hw _ (List.mem_of_getElem? (i := 62) rfl))) (Or.inr (hw _ (List.mem_of_getElem? (i := 64) rfl))) (by decide) (t := (.object "java/lang/String")) (t' := (.object "java/lang/String")) (by decide) (by decide)))).other W6 (Or.inr (slot_ne (Or.inr (hw _ (List.mem_of_getElem? (i := 62) rfl))) (Or.inr (hw _ (List.mem_of_getElem? (i := 66) rfl))) (by decide) (t := (.object "java/lang/String")) (t' := (.object "java/lang/String")) (by decide) (by decide)))).other W7 (Or.inr (slot_ne (Or.inr (hw _ (List.mem_of_getElem? (i := 62) rfl))) (Or.inr (hw _ (List.mem_of_getElem? (i := 68) rfl))) (by decide) (t := (.object "java/lang/String")) (t' := (.object "java/lang/String")) (by decide) (by decide)))).other W8 (Or.inr (slot_ne (Or.inr (hw _ (List.mem_of_getElem? (i := 62) rfl))) (Or.inr (hw _ (List.mem_of_getElem? (i := 70) rfl))) (by decide) (t := (.object "java/lang/String")) (t' := (.object "com/example/attesta/attesta/contract/Diagnosi")) (by decide) (by decide)))).other W9 (Or.inr (slot_ne (Or.inr (hw _ (List.mem_of_getElem? (i := 62) rfl))) (Or.inr (hw _ (List.mem_of_getElem? (i := 72) rfl))) (by decide) (t := (.object "java/lang/String")) (t' := (.object "java/lang/String")) (by decide) (by decide)))).other W10 (Or.inr (slot_ne (Or.inr (hw _ (List.mem_of_getElem? (i := 62) rfl))) (Or.inr (hw _ (List.mem_of_getElem? (i := 74) rfl))) (by decide) (t := (.object "java/lang/String")) (t' := (.object "java/lang/String")) (by decide) (by decide)))).other W11 (Or.inr (slot_ne (Or.inr (hw _ (List.mem_of_getElem? (i := 62) rfl))) (Or.inr (hw _ (List.mem_of_getElem? (i := 76) rfl))) (by decide) (t := (.object "java/lang/String")) (t' := (.object "java/lang/String")) (by decide) (by decide)))), ((((((Fw5.other W6 (Or.inr (slot_ne (Or.inr (hw _ (List.mem_of_getElem? (i := 64) rfl))) (Or.inr (hw _ (List.mem_of_getElem? (i := 66) rfl))) (by decide) (t := (.object "java/lang/String")) (t' := (.object "java/lang/String")) (by decide) (by decide)))).other W7 (Or.inr (slot_ne (Or.inr (hw _ (List.mem_of_getElem? (i := 64) rfl))) (Or.inr (hw _ (List.mem_of_getElem? (i := 68) rfl))) (by decide) (t := (.object "java/lang/String")) (t' := (.object "java/lang/String")) (by decide) (by decide)))).other W8 (Or.inr (slot_ne (Or.inr (hw _ (List.mem_of_getElem? (i := 64) rfl))) (Or.inr (hw _ (List.mem_of_getElem? (i := 70) rfl))) (by decide) (t := (.object "java/lang/String")) (t' := (.object "com/example/attesta/attesta/contract/Diagnosi")) (by decide) (by decide)))).other W9 (Or.inr (slot_ne (Or.inr (hw _ (List.mem_of_getElem? (i := 64) rfl))) (Or.inr (hw _ (List.mem_of_getElem? (i := 72) rfl))) (by decide) (t := (.object "java/lang/String")) (t' := (.object "java/lang/String")) (by decide) (by decide)))).other W10 (Or.inr (slot_ne (Or.inr (hw _ (List.mem_of_getElem? (i := 64) rfl))) (Or.inr (hw _ (List.mem_of_getElem? (i := 74) rfl))) (by decide) (t := (.object "java/lang/String")) (t' := (.object "java/lang/String")) (by decide) (by decide)))).other W11 (Or.inr (slot_ne (Or.inr (hw _ (List.mem_of_getElem? (i := 64) rfl))) (Or.inr (hw _ (List.mem_of_getElem? (i := 76) rfl))) (by decide) (t := (.object "java/lang/String")) (t' := (.object "java/lang/String")) (by decide) (by decide)))), (((((Fw6.other W7 (Or.inr (slot_ne (Or.inr (hw _ (List.mem_of_getElem? (i := 66) rfl))) (Or.inr (hw _ (List.mem_of_getElem? (i := 68) rfl))) (by decide) (t := (.object "java/lang/String")) (t' := (.object "java/lang/String")) (by decide) (by decide)))).other W8 (Or.inr (slot_ne (Or.inr (hw _ (List.mem_of_getElem? (i := 66) rfl))) (Or.inr (hw _ (List.mem_of_getElem? (i := 70) rfl))) (by decide) (t := (.object "java/lang/String")) (t' := (.object "com/example/attesta/attesta/contract/Diagnosi")) (by decide) (by decide)))).other W9 (Or.inr (slot_ne (Or.inr (hw _ (List.mem_of_getElem? (i := 66) rfl))) (Or.inr (hw _ (List.mem_of_getElem? (i := 72) rfl))) (by decide) (t := (.object "java/lang/String")) (t' := (.object "java/lang/String")) (by decide) (by decide)))).other W10 (Or.inr (slot_ne (Or.inr (hw _ (List.mem_of_getElem? (i := 66) rfl))) (Or.inr (hw _ (List.mem_of_getElem? (i := 74) rfl))) (by decide) (t := (.object "java/lang/String")) (t' := (.object "java/lang/String")) (by decide) (by decide)))).other W11 (Or.inr (slot_ne (Or.inr (hw _ (List.mem_of_getElem? (i := 66) rfl))) (Or.inr (hw _ (List.mem_of_getElem? (i := 76) rfl))) (by decide) (t := (.object "java/lang/String")) (t' := (.object "java/lang/String")) (by decide) (by decide)))), ((((Fw7.other W8 (Or.inr (slot_ne (Or.inr (hw _ (List.mem_of_getElem? (i := 68) rfl))) (Or.inr (hw _ (List.mem_of_getElem? (i := 70) rfl))) (by decide) (t := (.object "java/lang/String")) (t' := (.object "com/example/attesta/attesta/contract/Diagnosi")) (by decide) (by decide)))).other W9 (Or.inr (slot_ne (Or.inr (hw _ (List.mem_of_getElem? (i := 68) rfl))) (Or.inr (hw _ (List.mem_of_getElem? (i := 72) rfl))) (by decide) (t := (.object "java/lang/String")) (t' := (.object "java/lang/String")) (by decide) (by decide)))).other W10 (Or.inr (slot_ne (Or.inr (hw _ (List.mem_of_getElem? (i := 68) rfl))) (Or.inr (hw _ (List.mem_of_getElem? (i := 74) rfl))) (by decide) (t := (.object "java/lang/String")) (t' := (.object "java/lang/String")) (by decide) (by decide)))).other W11 (Or.inr (slot_ne (Or.inr (hw _ (List.mem_of_getElem? (i := 68) rfl))) (Or.inr (hw _ (List.mem_of_getElem? (i := 76) rfl))) (by decide) (t := (.object "java/lang/String")) (t' := (.object "java/lang/String")) (by decide) (by decide)))), (((Fw8.other W9 (Or.inr (slot_ne (Or.inr (hw _ (List.mem_of_getElem? (i := 70) rfl))) (Or.inr (hw _ (List.mem_of_getElem? (i := 72) rfl))) (by decide) (t := (.object "com/example/attesta/attesta/contract/Diagnosi")) (t' := (.object "java/lang/String")) (by decide) (by decide)))).other W10 (Or.inr (slot_ne (Or.inr (hw _ (List.mem_of_getElem? (i := 70) rfl))) (Or.inr (hw _ (List.mem_of_getElem? (i := 74) rfl))) (by decide) (t := (.object "com/example/attesta/attesta/contract/Diagnosi")) (t' := (.object "java/lang/String")) (by decide) (by decide)))).other W11 (Or.inr (slot_ne (Or.inr (hw _ (List.mem_of_getElem? (i := 70) rfl))) (Or.inr (hw _ (List.mem_of_getElem? (i := 76) rfl))) (by decide) (t := (.object "com/example/attesta/attesta/contract/Diagnosi")) (t' := (.object "java/lang/String")) (by decide) (by decide)))), ((Fw9.other W10 (Or.inr (slot_ne (Or.inr (hw _ (List.mem_of_getElem? (i := 72) rfl))) (Or.inr (hw _ (List.mem_of_getElem? (i := 74) rfl))) (by decide) (t := (.object "java/lang/String")) (t' := (.object "java/lang/String")) (by decide) (by decide)))).other W11 (Or.inr (slot_ne (Or.inr (hw _ (List.mem_of_getElem? (i := 72) rfl))) (Or.inr (hw _ (List.mem_of_getElem? (i := 76) rfl))) (by decide) (t := (.object "java/lang/String")) (t' := (.object "java/lang/String")) (by decide) (by decide)))), (Fw10.other W11 (Or.inr (slot_ne (Or.inr (hw _ (List.mem_of_getElem? (i := 74) rfl))) (Or.inr (hw _ (List.mem_of_getElem? (i := 76) rfl))) (by decide) (t := (.object "java/lang/String")) (t' := (.object "java/lang/String")) (by decide) (by decide)))), Fw11⟩) (by decide) (by decide)
theorem d11_0 : decode prog_32_method_2_code 0 = .ok (.new 8, 3) := by decide +kernel
theorem d11_3 : decode prog_32_method_2_code 3 = .ok (.dup, 1) := by decide +kernel
theorem d11_4 : decode prog_32_method_2_code 4 = .ok (.aload_n 0, 1) := by decide +kernel
theorem d11_5 : decode prog_32_method_2_code 5 = .ok (.getfield 7, 3) := by decide +kernel
theorem d11_8 : decode prog_32_method_2_code 8 = .ok (.aload_n 0, 1) := by decide +kernel
theorem d11_9 : decode prog_32_method_2_code 9 = .ok (.getfield 13, 3) := by decide +kernel
theorem d11_12 : decode prog_32_method_2_code 12 = .ok (.aload_n 0, 1) := by decide +kernel
theorem d11_13 : decode prog_32_method_2_code 13 = .ok (.getfield 16, 3) := by decide +kernel
theorem d11_16 : decode prog_32_method_2_code 16 = .ok (.aload_n 1, 1) := by decide +kernel
theorem d11_17 : decode prog_32_method_2_code 17 = .ok (.aload_n 0, 1) := by decide +kernel
theorem d11_18 : decode prog_32_method_2_code 18 = .ok (.getfield 22, 3) := by decide +kernel
theorem d11_21 : decode prog_32_method_2_code 21 = .ok (.aload_n 0, 1) := by decide +kernel
theorem d11_22 : decode prog_32_method_2_code 22 = .ok (.getfield 25, 3) := by decide +kernel
theorem d11_25 : decode prog_32_method_2_code 25 = .ok (.aload_n 0, 1) := by decide +kernel
theorem d11_26 : decode prog_32_method_2_code 26 = .ok (.getfield 28, 3) := by decide +kernel
theorem d11_29 : decode prog_32_method_2_code 29 = .ok (.aload_n 0, 1) := by decide +kernel
theorem d11_30 : decode prog_32_method_2_code 30 = .ok (.getfield 32, 3) := by decide +kernel
theorem d11_33 : decode prog_32_method_2_code 33 = .ok (.aload_n 0, 1) := by decide +kernel
theorem d11_34 : decode prog_32_method_2_code 34 = .ok (.getfield 35, 3) := by decide +kernel
theorem d11_37 : decode prog_32_method_2_code 37 = .ok (.aload_n 0, 1) := by decide +kernel
theorem d11_38 : decode prog_32_method_2_code 38 = .ok (.getfield 38, 3) := by decide +kernel
theorem d11_41 : decode prog_32_method_2_code 41 = .ok (.invokespecial 41, 3) := by decide +kernel
theorem d11_44 : decode prog_32_method_2_code 44 = .ok (.areturn, 1) := by decide +kernel
theorem pn_11 : plainName "com/example/attesta/attesta/contract/Malattia" = true := by first | (simp [plainName, overriddenIn]; done) | decide +kernel
theorem pd_8 : parseMethodDescriptor "(Ljava/lang/String;Ljava/lang/String;Ljava/lang/String;Ljava/lang/String;Ljava/lang/String;Ljava/lang/String;Lcom/example/attesta/attesta/contract/Diagnosi;Ljava/lang/String;Ljava/lang/String;Ljava/lang/String;)V" = some ⟨[(.object "java/lang/String"), (.object "java/lang/String"), (.object "java/lang/String"), (.object "java/lang/String"), (.object "java/lang/String"), (.object "java/lang/String"), (.object "com/example/attesta/attesta/contract/Diagnosi"), (.object "java/lang/String"), (.object "java/lang/String"), (.object "java/lang/String")], none⟩ := by decide +kernel
theorem ef_11 (m : MethodId) (a1 : Addr) (v2 : Value) (r_v2 : v2.isRef = true) : entryFrame m #[(.ref a1), v2] 2 = mkF m 0 #[.val (.ref a1), .val v2] [] := by
  have c_v2 := own_cat r_v2
  simp [entryFrame, mkF, argsToLocals, own_catR, c_v2]
def Q11 (Z : State) (a1 : Addr) (v2 : Value) (w2 : Value) (w4 : Value) (w6 : Value) (w8 : Value) (w10 : Value) (w12 : Value) (w14 : Value) (w16 : Value) (w18 : Value) (h0 : Heap) (n0 : Nat) (v : Option Value) (h : Heap) (L : List Loc) : Prop := v = some (.ref h0.size) ∧ Fr n0 L ∧ Keep h0 h [] ∧ Exa Z h h0.size "com/example/attesta/attesta/contract/Malattia" ∧ Fld Z h h0.size "com/example/attesta/attesta/contract/Malattia" "ruoloMedico" "Ljava/lang/String;" w2 ∧ Fld Z h h0.size "com/example/attesta/attesta/contract/Malattia" "dataRilascio" "Ljava/lang/String;" w4 ∧ Fld Z h h0.size "com/example/attesta/attesta/contract/Malattia" "dataInizio" "Ljava/lang/String;" w6 ∧ Fld Z h h0.size "com/example/attesta/attesta/contract/Malattia" "dataFine" "Ljava/lang/String;" v2 ∧ Fld Z h h0.size "com/example/attesta/attesta/contract/Malattia" "visita" "Ljava/lang/String;" w8 ∧ Fld Z h h0.size "com/example/attesta/attesta/contract/Malattia" "tipoCertificato" "Ljava/lang/String;" w10 ∧ Fld Z h h0.size "com/example/attesta/attesta/contract/Malattia" "diagnosi" "Lcom/example/attesta/attesta/contract/Diagnosi;" w12 ∧ Fld Z h h0.size "com/example/attesta/attesta/contract/Malattia" "giornataLavorata" "Ljava/lang/String;" w14 ∧ Fld Z h h0.size "com/example/attesta/attesta/contract/Malattia" "trauma" "Ljava/lang/String;" w16 ∧ Fld Z h h0.size "com/example/attesta/attesta/contract/Malattia" "agevolazioni" "Ljava/lang/String;" w18
set_option maxRecDepth 65536 in
set_option maxHeartbeats 40000000 in
theorem rm11 (l : Launch) (Z : State) (a0 : Array Value) (hw : ∀ d ∈ tables_1, d.before a0 Z = true) (ws : List Jvm.Cond) (a1 : Addr) (v2 : Value) (w2 : Value) (w4 : Value) (w6 : Value) (w8 : Value) (w10 : Value) (w12 : Value) (w14 : Value) (w16 : Value) (w18 : Value) (h0 : Heap) (n0 : Nat) (Z0 : n0 ≤ h0.size) (r_v2 : v2.isRef = true) (r_w2 : w2.isRef = true) (F_ruoloMedico_a1 : Fld Z h0 a1 "com/example/attesta/attesta/contract/Malattia" "ruoloMedico" "Ljava/lang/String;" w2) (r_w4 : w4.isRef = true) (F_dataRilascio_a1 : Fld Z h0 a1 "com/example/attesta/attesta/contract/Malattia" "dataRilascio" "Ljava/lang/String;" w4) (r_w6 : w6.isRef = true) (F_dataInizio_a1 : Fld Z h0 a1 "com/example/attesta/attesta/contract/Malattia" "dataInizio" "Ljava/lang/String;" w6) (r_w8 : w8.isRef = true) (F_visita_a1 : Fld Z h0 a1 "com/example/attesta/attesta/contract/Malattia" "visita" "Ljava/lang/String;" w8) (r_w10 : w10.isRef = true) (F_tipoCertificato_a1 : Fld Z h0 a1 "com/example/attesta/attesta/contract/Malattia" "tipoCertificato" "Ljava/lang/String;" w10) (r_w12 : w12.isRef = true) (F_diagnosi_a1 : Fld Z h0 a1 "com/example/attesta/attesta/contract/Malattia" "diagnosi" "Lcom/example/attesta/attesta/contract/Diagnosi;" w12) (r_w14 : w14.isRef = true) (F_giornataLavorata_a1 : Fld Z h0 a1 "com/example/attesta/attesta/contract/Malattia" "giornataLavorata" "Ljava/lang/String;" w14) (r_w16 : w16.isRef = true) (F_trauma_a1 : Fld Z h0 a1 "com/example/attesta/attesta/contract/Malattia" "trauma" "Ljava/lang/String;" w16) (r_w18 : w18.isRef = true) (F_agevolazioni_a1 : Fld Z h0 a1 "com/example/attesta/attesta/contract/Malattia" "agevolazioni" "Ljava/lang/String;" w18) :
    MetFree l (⟨"com/example/attesta/attesta/contract/Malattia", "withDataFine", "(Ljava/lang/String;)Lcom/example/attesta/attesta/contract/Malattia;"⟩ : MethodName) (head1 (Jvm.Cond.code (⟨"com/example/attesta/attesta/contract/Malattia", "withDataFine", "(Ljava/lang/String;)Lcom/example/attesta/attesta/contract/Malattia;"⟩ : MethodName) prog_32_method_2_code 2 (some (.object "com/example/attesta/attesta/contract/Malattia")) :: ws) ({ frames := 3, cells := 1, slots := 10, locals := 47 } : Room)) (fun a U => a = #[(.ref a1), v2] ∧ Z.Warmed39 U.vm ∧ U.heap = h0) (fun _ _ _ _ _ => True) (fun _ U o U' => ∃ v L, o = .returned v ∧ Q11 Z a1 v2 w2 w4 w6 w8 w10 w12 w14 w16 w18 h0 n0 v U'.heap L ∧ FrameEnd U o U' L ({ frames := 3, cells := 1, slots := 10, locals := 47 } : Room).cells ({ frames := 3, cells := 1, slots := 10, locals := 47 } : Room).slots) := by
  refine MetFree.of_bodySF (plainFor_of_name pn_11) hisR ?_
  intro p e s m args below meth c s₁ Bd hml0 hP hK
  obtain ⟨rfl, hZ, hh⟩ := hP
  have hx := Bd.exec
  have hby := Bd.bytes
  have hml : c.maxLocals = 2 := hml0
  have hown : s.vm.findClass "com/example/attesta/attesta/contract/Malattia" = some m.cls := findClass_of_methodNamed Bd.named
  have hnm := (name_of_methodNamed Bd.named Bd.method).1
  have X0 : Stand p l e ({ frames := 3, cells := 1, slots := 10, locals := 47 } : Room) s m #[(.ref a1), v2] below meth c s₁ [] 0 0 := Stand.of_body Bd
  have e0 : s₁.heap = h0 := by rw [← hh, Bd.state]; rfl
  have N0 := Fr.nil n0
  show own_Go p.tables e below (own_Fin below s (Q11 Z a1 v2 w2 w4 w6 w8 w10 w12 w14 w16 w18 h0 n0) ({ frames := 3, cells := 1, slots := 10, locals := 47 } : Room).cells ({ frames := 3, cells := 1, slots := 10, locals := 47 } : Room).slots) (s₁.setTop (entryFrame m #[(.ref a1), v2] 2))
  refine own_go (S' := s₁.setTop (mkF m 0 #[.val (.ref a1), .val v2] [])) (fun t k => castTop (ef_11 m a1 v2 r_v2) k) ?_
  show own_Go p.tables e below _ (s₁.setTop (mkF m 0 #[.val (.ref a1), .val v2] []))
  obtain ⟨T1, h1, X1, e1, E1, A1, D1, -, st1⟩ := newO X0 hx hZ hown (hw _ (List.mem_of_getElem? (i := 82) rfl)) (hw _ (List.mem_of_getElem? (i := 51) rfl)) (hw _ (List.mem_of_getElem? (i := 52) rfl)) e0 (g := (mkF m 0 #[.val (.ref a1), .val v2] [])) rfl (hb hby d11_0) (by decide) (by decide)
  obtain ⟨b1, g1⟩ : ∃ z, z = h0.size := ⟨_, rfl⟩
  rw [← g1] at A1 D1 st1
  refine own_go st1 ?_
  have g_b1 : n0 ≤ b1 := Nat.le_trans Z0 (Nat.le_of_eq g1.symm)
  have sz_b1 : h0.size ≤ b1 := (Nat.le_trans (Keep.refl h0 []).1 (Nat.le_of_eq g1.symm))
  have K1 : Keep h0 h1 [] := (Keep.refl h0 []).ext E1
  have F_ruoloMedico_b1 : Fld Z h1 b1 "com/example/attesta/attesta/contract/Malattia" "ruoloMedico" "Ljava/lang/String;" .null := D1 (Or.inr (hw _ (List.mem_of_getElem? (i := 58) rfl))) (ty := (.object "java/lang/String")) (by decide)
  have F_dataRilascio_b1 : Fld Z h1 b1 "com/example/attesta/attesta/contract/Malattia" "dataRilascio" "Ljava/lang/String;" .null := D1 (Or.inr (hw _ (List.mem_of_getElem? (i := 60) rfl))) (ty := (.object "java/lang/String")) (by decide)
  have F_dataInizio_b1 : Fld Z h1 b1 "com/example/attesta/attesta/contract/Malattia" "dataInizio" "Ljava/lang/String;" .null := D1 (Or.inr (hw _ (List.mem_of_getElem? (i := 62) rfl))) (ty := (.object "java/lang/String")) (by decide)
  have F_dataFine_b1 : Fld Z h1 b1 "com/example/attesta/attesta/contract/Malattia" "dataFine" "Ljava/lang/String;" .null := D1 (Or.inr (hw _ (List.mem_of_getElem? (i := 64) rfl))) (ty := (.object "java/lang/String")) (by decide)
  have F_visita_b1 : Fld Z h1 b1 "com/example/attesta/attesta/contract/Malattia" "visita" "Ljava/lang/String;" .null := D1 (Or.inr (hw _ (List.mem_of_getElem? (i := 66) rfl))) (ty := (.object "java/lang/String")) (by decide)
  have F_tipoCertificato_b1 : Fld Z h1 b1 "com/example/attesta/attesta/contract/Malattia" "tipoCertificato" "Ljava/lang/String;" .null := D1 (Or.inr (hw _ (List.mem_of_getElem? (i := 68) rfl))) (ty := (.object "java/lang/String")) (by decide)
  have F_diagnosi_b1 : Fld Z h1 b1 "com/example/attesta/attesta/contract/Malattia" "diagnosi" "Lcom/example/attesta/attesta/contract/Diagnosi;" .null := D1 (Or.inr (hw _ (List.mem_of_getElem? (i := 70) rfl))) (ty := (.object "com/example/attesta/attesta/contract/Diagnosi")) (by decide)
  have F_giornataLavorata_b1 : Fld Z h1 b1 "com/example/attesta/attesta/contract/Malattia" "giornataLavorata" "Ljava/lang/String;" .null := D1 (Or.inr (hw _ (List.mem_of_getElem? (i := 72) rfl))) (ty := (.object "java/lang/String")) (by decide)
  have F_trauma_b1 : Fld Z h1 b1 "com/example/attesta/attesta/contract/Malattia" "trauma" "Ljava/lang/String;" .null := D1 (Or.inr (hw _ (List.mem_of_getElem? (i := 74) rfl))) (ty := (.object "java/lang/String")) (by decide)
  have F_agevolazioni_b1 : Fld Z h1 b1 "com/example/attesta/attesta/contract/Malattia" "agevolazioni" "Ljava/lang/String;" .null := D1 (Or.inr (hw _ (List.mem_of_getElem? (i := 76) rfl))) (ty := (.object "java/lang/String")) (by decide)
  show own_Go p.tables e below _ (T1.setTop (mkF m 3 #[.val (.ref a1), .val v2] [(.ref b1)]))
  refine own_go (fun _ => XS.dup X1.here hx rfl (hb hby d11_3) rfl rfl) ?_
  show own_Go p.tables e below _ (T1.setTop (mkF m 4 #[.val (.ref a1), .val v2] [(.ref b1), (.ref b1)]))
  refine own_go (fun _ => XS.aloadN X1.here hx rfl (hb hby d11_4) rfl rfl) ?_
  show own_Go p.tables e below _ (T1.setTop (mkF m 5 #[.val (.ref a1), .val v2] [(.ref a1), (.ref b1), (.ref b1)]))
  obtain ⟨T3, X3, e3, st3⟩ := getF X1 hx hZ hown (host := "") (Or.inl (hw _ (List.mem_of_getElem? (i := 57) rfl))) Via.refl e1 (F_ruoloMedico_a1.ext E1) (g := (mkF m 5 #[.val (.ref a1), .val v2] [(.ref a1), (.ref b1), (.ref b1)])) rfl rfl (hb hby d11_5)
  refine own_go st3 ?_
  show own_Go p.tables e below _ (T3.setTop (mkF m 8 #[.val (.ref a1), .val v2] [w2, (.ref b1), (.ref b1)]))
  refine own_go (fun _ => XS.aloadN X3.here hx rfl (hb hby d11_8) rfl rfl) ?_
  show own_Go p.tables e below _ (T3.setTop (mkF m 9 #[.val (.ref a1), .val v2] [(.ref a1), w2, (.ref b1), (.ref b1)]))
  obtain ⟨T5, X5, e5, st5⟩ := getF X3 hx hZ hown (host := "") (Or.inl (hw _ (List.mem_of_getElem? (i := 59) rfl))) Via.refl e3 (F_dataRilascio_a1.ext E1) (g := (mkF m 9 #[.val (.ref a1), .val v2] [(.ref a1), w2, (.ref b1), (.ref b1)])) rfl rfl (hb hby d11_9)
  refine own_go st5 ?_
  show own_Go p.tables e below _ (T5.setTop (mkF m 12 #[.val (.ref a1), .val v2] [w4, w2, (.ref b1), (.ref b1)]))
  refine own_go (fun _ => XS.aloadN X5.here hx rfl (hb hby d11_12) rfl rfl) ?_
  show own_Go p.tables e below _ (T5.setTop (mkF m 13 #[.val (.ref a1), .val v2] [(.ref a1), w4, w2, (.ref b1), (.ref b1)]))
  obtain ⟨T7, X7, e7, st7⟩ := getF X5 hx hZ hown (host := "") (Or.inl (hw _ (List.mem_of_getElem? (i := 61) rfl))) Via.refl e5 (F_dataInizio_a1.ext E1) (g := (mkF m 13 #[.val (.ref a1), .val v2] [(.ref a1), w4, w2, (.ref b1), (.ref b1)])) rfl rfl (hb hby d11_13)
  refine own_go st7 ?_
  show own_Go p.tables e below _ (T7.setTop (mkF m 16 #[.val (.ref a1), .val v2] [w6, w4, w2, (.ref b1), (.ref b1)]))
  refine own_go (fun _ => XS.aloadN X7.here hx rfl (hb hby d11_16) rfl r_v2) ?_
  show own_Go p.tables e below _ (T7.setTop (mkF m 17 #[.val (.ref a1), .val v2] [v2, w6, w4, w2, (.ref b1), (.ref b1)]))
  refine own_go (fun _ => XS.aloadN X7.here hx rfl (hb hby d11_17) rfl rfl) ?_
  show own_Go p.tables e below _ (T7.setTop (mkF m 18 #[.val (.ref a1), .val v2] [(.ref a1), v2, w6, w4, w2, (.ref b1), (.ref b1)]))
  obtain ⟨T9, X9, e9, st9⟩ := getF X7 hx hZ hown (host := "") (Or.inl (hw _ (List.mem_of_getElem? (i := 65) rfl))) Via.refl e7 (F_visita_a1.ext E1) (g := (mkF m 18 #[.val (.ref a1), .val v2] [(.ref a1), v2, w6, w4, w2, (.ref b1), (.ref b1)])) rfl rfl (hb hby d11_18)
  refine own_go st9 ?_
  show own_Go p.tables e below _ (T9.setTop (mkF m 21 #[.val (.ref a1), .val v2] [w8, v2, w6, w4, w2, (.ref b1), (.ref b1)]))
  refine own_go (fun _ => XS.aloadN X9.here hx rfl (hb hby d11_21) rfl rfl) ?_
  show own_Go p.tables e below _ (T9.setTop (mkF m 22 #[.val (.ref a1), .val v2] [(.ref a1), w8, v2, w6, w4, w2, (.ref b1), (.ref b1)]))
  obtain ⟨T11, X11, e11, st11⟩ := getF X9 hx hZ hown (host := "") (Or.inl (hw _ (List.mem_of_getElem? (i := 67) rfl))) Via.refl e9 (F_tipoCertificato_a1.ext E1) (g := (mkF m 22 #[.val (.ref a1), .val v2] [(.ref a1), w8, v2, w6, w4, w2, (.ref b1), (.ref b1)])) rfl rfl (hb hby d11_22)
  refine own_go st11 ?_
  show own_Go p.tables e below _ (T11.setTop (mkF m 25 #[.val (.ref a1), .val v2] [w10, w8, v2, w6, w4, w2, (.ref b1), (.ref b1)]))
  refine own_go (fun _ => XS.aloadN X11.here hx rfl (hb hby d11_25) rfl rfl) ?_
  show own_Go p.tables e below _ (T11.setTop (mkF m 26 #[.val (.ref a1), .val v2] [(.ref a1), w10, w8, v2, w6, w4, w2, (.ref b1), (.ref b1)]))
  obtain ⟨T13, X13, e13, st13⟩ := getF X11 hx hZ hown (host := "") (Or.inl (hw _ (List.mem_of_getElem? (i := 69) rfl))) Via.refl e11 (F_diagnosi_a1.ext E1) (g := (mkF m 26 #[.val (.ref a1), .val v2] [(.ref a1), w10, w8, v2, w6, w4, w2, (.ref b1), (.ref b1)])) rfl rfl (hb hby d11_26)
  refine own_go st13 ?_
  show own_Go p.tables e below _ (T13.setTop (mkF m 29 #[.val (.ref a1), .val v2] [w12, w10, w8, v2, w6, w4, w2, (.ref b1), (.ref b1)]))
  refine own_go (fun _ => XS.aloadN X13.here hx rfl (hb hby d11_29) rfl rfl) ?_
  show own_Go p.tables e below _ (T13.setTop (mkF m 30 #[.val (.ref a1), .val v2] [(.ref a1), w12, w10, w8, v2, w6, w4, w2, (.ref b1), (.ref b1)]))
  obtain ⟨T15, X15, e15, st15⟩ := getF X13 hx hZ hown (host := "") (Or.inl (hw _ (List.mem_of_getElem? (i := 71) rfl))) Via.refl e13 (F_giornataLavorata_a1.ext E1) (g := (mkF m 30 #[.val (.ref a1), .val v2] [(.ref a1), w12, w10, w8, v2, w6, w4, w2, (.ref b1), (.ref b1)])) rfl rfl (hb hby d11_30)
  refine own_go st15 ?_
  show own_Go p.tables e below _ (T15.setTop (mkF m 33 #[.val (.ref a1), .val v2] [w14, w12, w10, w8, v2, w6, w4, w2, (.ref b1), (.ref b1)]))
  refine own_go (fun _ => XS.aloadN X15.here hx rfl (hb hby d11_33) rfl rfl) ?_
  show own_Go p.tables e below _ (T15.setTop (mkF m 34 #[.val (.ref a1), .val v2] [(.ref a1), w14, w12, w10, w8, v2, w6, w4, w2, (.ref b1), (.ref b1)]))
  obtain ⟨T17, X17, e17, st17⟩ := getF X15 hx hZ hown (host := "") (Or.inl (hw _ (List.mem_of_getElem? (i := 73) rfl))) Via.refl e15 (F_trauma_a1.ext E1) (g := (mkF m 34 #[.val (.ref a1), .val v2] [(.ref a1), w14, w12, w10, w8, v2, w6, w4, w2, (.ref b1), (.ref b1)])) rfl rfl (hb hby d11_34)
  refine own_go st17 ?_
  show own_Go p.tables e below _ (T17.setTop (mkF m 37 #[.val (.ref a1), .val v2] [w16, w14, w12, w10, w8, v2, w6, w4, w2, (.ref b1), (.ref b1)]))
  refine own_go (fun _ => XS.aloadN X17.here hx rfl (hb hby d11_37) rfl rfl) ?_
  show own_Go p.tables e below _ (T17.setTop (mkF m 38 #[.val (.ref a1), .val v2] [(.ref a1), w16, w14, w12, w10, w8, v2, w6, w4, w2, (.ref b1), (.ref b1)]))
  obtain ⟨T19, X19, e19, st19⟩ := getF X17 hx hZ hown (host := "") (Or.inl (hw _ (List.mem_of_getElem? (i := 75) rfl))) Via.refl e17 (F_agevolazioni_a1.ext E1) (g := (mkF m 38 #[.val (.ref a1), .val v2] [(.ref a1), w16, w14, w12, w10, w8, v2, w6, w4, w2, (.ref b1), (.ref b1)])) rfl rfl (hb hby d11_38)
  refine own_go st19 ?_
  show own_Go p.tables e below _ (T19.setTop (mkF m 41 #[.val (.ref a1), .val v2] [w18, w16, w14, w12, w10, w8, v2, w6, w4, w2, (.ref b1), (.ref b1)]))
  obtain ⟨v20, T20, L20, X20, hQ20, st20⟩ := own_tidyV X19 (X19.specialBack hx (y := (⟨"com/example/attesta/attesta/contract/Malattia", "<init>", "(Ljava/lang/String;Ljava/lang/String;Ljava/lang/String;Ljava/lang/String;Ljava/lang/String;Ljava/lang/String;Lcom/example/attesta/attesta/contract/Diagnosi;Ljava/lang/String;Ljava/lang/String;Ljava/lang/String;)V"⟩ : MethodName)) rfl hown (mvT hZ (hw _ (List.mem_of_getElem? (i := 83) rfl))) (mvT hZ (hw _ (List.mem_of_getElem? (i := 54) rfl))) (mvT hZ (hw _ (List.mem_of_getElem? (i := 55) rfl))) (by decide) (backOf (W := 1) (rm10 l Z a0 hw [] b1 w2 w4 w6 v2 w8 w10 w12 w14 w16 w18 .null .null .null .null .null .null .null .null .null .null h1 n0 (Nat.le_trans Z0 E1.1) (by first | assumption | rfl) (by first | assumption | rfl) (by first | assumption | rfl) (by first | assumption | rfl) (by first | assumption | rfl) (by first | assumption | rfl) (by first | assumption | rfl) (by first | assumption | rfl) (by first | assumption | rfl) (by first | assumption | rfl) A1 F_ruoloMedico_b1 g_b1 F_dataRilascio_b1 F_dataInizio_b1 F_dataFine_b1 F_visita_b1 F_tipoCertificato_b1 F_diagnosi_b1 F_giornataLavorata_b1 F_trauma_b1 F_agevolazioni_b1) hZ (hw _ (List.mem_of_getElem? (i := 55) rfl)) (hw _ (List.mem_of_getElem? (i := 52) rfl)) (by decide) (by decide)) (g := (mkF m 41 #[.val (.ref a1), .val v2] [w18, w16, w14, w12, w10, w8, v2, w6, w4, w2, (.ref b1), (.ref b1)])) rfl (by rw [hml]; rfl) (Steps.refl _) (a := b1) (argsL := [w2, w4, w6, v2, w8, w10, w12, w14, w16, w18]) (rest := [(.ref b1)]) (lenOf pd_8 rfl) rfl (by show 2 * 0 + _ ≤ _; exact Nat.le_of_eq rfl) (hb hby d11_41) (fun _ _ => ⟨rfl, e19, (by decide : 1 + 0 ≤ _), (by decide : 10 + 0 ≤ _)⟩)) (c' := 1) (n' := 10) rfl rfl
  obtain ⟨rfl, N20q, Kc20, F20_0, F20_1, F20_2, F20_3, F20_4, F20_5, F20_6, F20_7, F20_8, F20_9, F20_10⟩ := hQ20
  have N20 := Fr.app N0 N20q
  refine own_via st20 ?_
  have K20 : Keep h0 T20.heap [] := K1.trans Kc20 (allS (Or.inr sz_b1) all0)
  show own_Go p.tables e below _ (T20.setTop (mkF m 44 #[.val (.ref a1), .val v2] [(.ref b1)]))
  refine own_retA X20 Bd.notSynchronized hx Bd.returns rfl rfl rfl (hb hby d11_44) (show Q11 Z a1 v2 w2 w4 w6 w8 w10 w12 w14 w16 w18 h0 n0 _ T20.heap _ from ⟨(own_valR g1.symm), N20, K20, (g1 ▸ F20_0), (g1 ▸ F20_1), (g1 ▸ F20_2), (g1 ▸ F20_3), (g1 ▸ F20_4), (g1 ▸ F20_5), (g1 ▸ F20_6), (g1 ▸ F20_7), (g1 ▸ F20_8), (g1 ▸ F20_9), (g1 ▸ F20_10)⟩) (by decide) (by decide)
theorem d12_0 : decode prog_32_method_6_code 0 = .ok (.aload_n 0, 1) := by decide +kernel
theorem d12_1 : decode prog_32_method_6_code 1 = .ok (.getfield 7, 3) := by decide +kernel
theorem d12_4 : decode prog_32_method_6_code 4 = .ok (.areturn, 1) := by decide +kernel
theorem pn_12 : plainName "com/example/attesta/attesta/contract/Malattia" = true := by first | (simp [plainName, overriddenIn]; done) | decide +kernel
theorem ef_12 (m : MethodId) (a1 : Addr) : entryFrame m #[(.ref a1)] 1 = mkF m 0 #[.val (.ref a1)] [] := by first | (simp [entryFrame, mkF, argsToLocals, Value.category]; done) | rfl
def Q12 (Z : State) (a1 : Addr) (w2 : Value) (h0 : Heap) (n0 : Nat) (v : Option Value) (h : Heap) (L : List Loc) : Prop := v = some w2 ∧ Fr n0 L ∧ h = h0
set_option maxRecDepth 65536 in
set_option maxHeartbeats 40000000 in
theorem rm12 (l : Launch) (Z : State) (a0 : Array Value) (hw : ∀ d ∈ tables_1, d.before a0 Z = true) (ws : List Jvm.Cond) (a1 : Addr) (w2 : Value) (h0 : Heap) (n0 : Nat) (Z0 : n0 ≤ h0.size) (r_w2 : w2.isRef = true) (F_ruoloMedico_a1 : Fld Z h0 a1 "com/example/attesta/attesta/contract/Malattia" "ruoloMedico" "Ljava/lang/String;" w2) :
    MetFree l (⟨"com/example/attesta/attesta/contract/Malattia", "ruoloMedico", "()Ljava/lang/String;"⟩ : MethodName) (head1 (Jvm.Cond.code (⟨"com/example/attesta/attesta/contract/Malattia", "ruoloMedico", "()Ljava/lang/String;"⟩ : MethodName) prog_32_method_6_code 1 (some (.object "java/lang/String")) :: ws) ({ frames := 0, cells := 0, slots := 0, locals := 0 } : Room)) (fun a U => a = #[(.ref a1)] ∧ Z.Warmed39 U.vm ∧ U.heap = h0) (fun _ _ _ _ _ => True) (fun _ U o U' => ∃ v L, o = .returned v ∧ Q12 Z a1 w2 h0 n0 v U'.heap L ∧ FrameEnd U o U' L ({ frames := 0, cells := 0, slots := 0, locals := 0 } : Room).cells ({ frames := 0, cells := 0, slots := 0, locals := 0 } : Room).slots) := by
  refine MetFree.of_bodySF (plainFor_of_name pn_12) hisR ?_
  intro p e s m args below meth c s₁ Bd hml0 hP hK
  obtain ⟨rfl, hZ, hh⟩ := hP
  have hx := Bd.exec
  have hby := Bd.bytes
  have hml : c.maxLocals = 1 := hml0
  have hown : s.vm.findClass "com/example/attesta/attesta/contract/Malattia" = some m.cls := findClass_of_methodNamed Bd.named
  have hnm := (name_of_methodNamed Bd.named Bd.method).1
  have X0 : Stand p l e ({ frames := 0, cells := 0, slots := 0, locals := 0 } : Room) s m #[(.ref a1)] below meth c s₁ [] 0 0 := Stand.of_body Bd
  have e0 : s₁.heap = h0 := by rw [← hh, Bd.state]; rfl
  have N0 := Fr.nil n0
  show own_Go p.tables e below (own_Fin below s (Q12 Z a1 w2 h0 n0) ({ frames := 0, cells := 0, slots := 0, locals := 0 } : Room).cells ({ frames := 0, cells := 0, slots := 0, locals := 0 } : Room).slots) (s₁.setTop (entryFrame m #[(.ref a1)] 1))
  refine own_go (S' := s₁.setTop (mkF m 0 #[.val (.ref a1)] [])) (fun t k => castTop (ef_12 m a1) k) ?_
  show own_Go p.tables e below _ (s₁.setTop (mkF m 0 #[.val (.ref a1)] []))
  refine own_go (fun _ => XS.aloadN X0.here hx rfl (hb hby d12_0) rfl rfl) ?_
  show own_Go p.tables e below _ (s₁.setTop (mkF m 1 #[.val (.ref a1)] [(.ref a1)]))
  obtain ⟨T3, X3, e3, st3⟩ := getF X0 hx hZ hown (host := "") (Or.inl (hw _ (List.mem_of_getElem? (i := 57) rfl))) Via.refl e0 F_ruoloMedico_a1 (g := (mkF m 1 #[.val (.ref a1)] [(.ref a1)])) rfl rfl (hb hby d12_1)
  refine own_go st3 ?_
  show own_Go p.tables e below _ (T3.setTop (mkF m 4 #[.val (.ref a1)] [w2]))
  refine own_retA X3 Bd.notSynchronized hx Bd.returns rfl (own_narR r_w2) r_w2 (hb hby d12_4) (show Q12 Z a1 w2 h0 n0 _ T3.heap _ from by rw [e3]; exact ⟨rfl, N0, rfl⟩) (by decide) (by decide)
theorem d13_0 : decode prog_32_method_7_code 0 = .ok (.aload_n 0, 1) := by decide +kernel
theorem d13_1 : decode prog_32_method_7_code 1 = .ok (.getfield 13, 3) := by decide +kernel
theorem d13_4 : decode prog_32_method_7_code 4 = .ok (.areturn, 1) := by decide +kernel
theorem pn_13 : plainName "com/example/attesta/attesta/contract/Malattia" = true := by first | (simp [plainName, overriddenIn]; done) | decide +kernel
theorem ef_13 (m : MethodId) (a1 : Addr) : entryFrame m #[(.ref a1)] 1 = mkF m 0 #[.val (.ref a1)] [] := by first | (simp [entryFrame, mkF, argsToLocals, Value.category]; done) | rfl
def Q13 (Z : State) (a1 : Addr) (w2 : Value) (h0 : Heap) (n0 : Nat) (v : Option Value) (h : Heap) (L : List Loc) : Prop := v = some w2 ∧ Fr n0 L ∧ h = h0
set_option maxRecDepth 65536 in
set_option maxHeartbeats 40000000 in
theorem rm13 (l : Launch) (Z : State) (a0 : Array Value) (hw : ∀ d ∈ tables_1, d.before a0 Z = true) (ws : List Jvm.Cond) (a1 : Addr) (w2 : Value) (h0 : Heap) (n0 : Nat) (Z0 : n0 ≤ h0.size) (r_w2 : w2.isRef = true) (F_dataRilascio_a1 : Fld Z h0 a1 "com/example/attesta/attesta/contract/Malattia" "dataRilascio" "Ljava/lang/String;" w2) :
    MetFree l (⟨"com/example/attesta/attesta/contract/Malattia", "dataRilascio", "()Ljava/lang/String;"⟩ : MethodName) (head1 (Jvm.Cond.code (⟨"com/example/attesta/attesta/contract/Malattia", "dataRilascio", "()Ljava/lang/String;"⟩ : MethodName) prog_32_method_7_code 1 (some (.object "java/lang/String")) :: ws) ({ frames := 0, cells := 0, slots := 0, locals := 0 } : Room)) (fun a U => a = #[(.ref a1)] ∧ Z.Warmed39 U.vm ∧ U.heap = h0) (fun _ _ _ _ _ => True) (fun _ U o U' => ∃ v L, o = .returned v ∧ Q13 Z a1 w2 h0 n0 v U'.heap L ∧ FrameEnd U o U' L ({ frames := 0, cells := 0, slots := 0, locals := 0 } : Room).cells ({ frames := 0, cells := 0, slots := 0, locals := 0 } : Room).slots) := by
  refine MetFree.of_bodySF (plainFor_of_name pn_13) hisR ?_
  intro p e s m args below meth c s₁ Bd hml0 hP hK
  obtain ⟨rfl, hZ, hh⟩ := hP
  have hx := Bd.exec
  have hby := Bd.bytes
  have hml : c.maxLocals = 1 := hml0
  have hown : s.vm.findClass "com/example/attesta/attesta/contract/Malattia" = some m.cls := findClass_of_methodNamed Bd.named
  have hnm := (name_of_methodNamed Bd.named Bd.method).1
  have X0 : Stand p l e ({ frames := 0, cells := 0, slots := 0, locals := 0 } : Room) s m #[(.ref a1)] below meth c s₁ [] 0 0 := Stand.of_body Bd
  have e0 : s₁.heap = h0 := by rw [← hh, Bd.state]; rfl
  have N0 := Fr.nil n0
  show own_Go p.tables e below (own_Fin below s (Q13 Z a1 w2 h0 n0) ({ frames := 0, cells := 0, slots := 0, locals := 0 } : Room).cells ({ frames := 0, cells := 0, slots := 0, locals := 0 } : Room).slots) (s₁.setTop (entryFrame m #[(.ref a1)] 1))
  refine own_go (S' := s₁.setTop (mkF m 0 #[.val (.ref a1)] [])) (fun t k => castTop (ef_13 m a1) k) ?_
  show own_Go p.tables e below _ (s₁.setTop (mkF m 0 #[.val (.ref a1)] []))
  refine own_go (fun _ => XS.aloadN X0.here hx rfl (hb hby d13_0) rfl rfl) ?_
  show own_Go p.tables e below _ (s₁.setTop (mkF m 1 #[.val (.ref a1)] [(.ref a1)]))
  obtain ⟨T3, X3, e3, st3⟩ := getF X0 hx hZ hown (host := "") (Or.inl (hw _ (List.mem_of_getElem? (i := 59) rfl))) Via.refl e0 F_dataRilascio_a1 (g := (mkF m 1 #[.val (.ref a1)] [(.ref a1)])) rfl rfl (hb hby d13_1)
  refine own_go st3 ?_
  show own_Go p.tables e below _ (T3.setTop (mkF m 4 #[.val (.ref a1)] [w2]))
  refine own_retA X3 Bd.notSynchronized hx Bd.returns rfl (own_narR r_w2) r_w2 (hb hby d13_4) (show Q13 Z a1 w2 h0 n0 _ T3.heap _ from by rw [e3]; exact ⟨rfl, N0, rfl⟩) (by decide) (by decide)
theorem d14_0 : decode prog_32_method_8_code 0 = .ok (.aload_n 0, 1) := by decide +kernel
theorem d14_1 : decode prog_32_method_8_code 1 = .ok (.getfield 16, 3) := by decide +kernel
theorem d14_4 : decode prog_32_method_8_code 4 = .ok (.areturn, 1) := by decide +kernel
theorem pn_14 : plainName "com/example/attesta/attesta/contract/Malattia" = true := by first | (simp [plainName, overriddenIn]; done) | decide +kernel
theorem ef_14 (m : MethodId) (a1 : Addr) : entryFrame m #[(.ref a1)] 1 = mkF m 0 #[.val (.ref a1)] [] := by first | (simp [entryFrame, mkF, argsToLocals, Value.category]; done) | rfl
def Q14 (Z : State) (a1 : Addr) (w2 : Value) (h0 : Heap) (n0 : Nat) (v : Option Value) (h : Heap) (L : List Loc) : Prop := v = some w2 ∧ Fr n0 L ∧ h = h0
set_option maxRecDepth 65536 in
set_option maxHeartbeats 40000000 in
theorem rm14 (l : Launch) (Z : State) (a0 : Array Value) (hw : ∀ d ∈ tables_1, d.before a0 Z = true) (ws : List Jvm.Cond) (a1 : Addr) (w2 : Value) (h0 : Heap) (n0 : Nat) (Z0 : n0 ≤ h0.size) (r_w2 : w2.isRef = true) (F_dataInizio_a1 : Fld Z h0 a1 "com/example/attesta/attesta/contract/Malattia" "dataInizio" "Ljava/lang/String;" w2) :
    MetFree l (⟨"com/example/attesta/attesta/contract/Malattia", "dataInizio", "()Ljava/lang/String;"⟩ : MethodName) (head1 (Jvm.Cond.code (⟨"com/example/attesta/attesta/contract/Malattia", "dataInizio", "()Ljava/lang/String;"⟩ : MethodName) prog_32_method_8_code 1 (some (.object "java/lang/String")) :: ws) ({ frames := 0, cells := 0, slots := 0, locals := 0 } : Room)) (fun a U => a = #[(.ref a1)] ∧ Z.Warmed39 U.vm ∧ U.heap = h0) (fun _ _ _ _ _ => True) (fun _ U o U' => ∃ v L, o = .returned v ∧ Q14 Z a1 w2 h0 n0 v U'.heap L ∧ FrameEnd U o U' L ({ frames := 0, cells := 0, slots := 0, locals := 0 } : Room).cells ({ frames := 0, cells := 0, slots := 0, locals := 0 } : Room).slots) := by
  refine MetFree.of_bodySF (plainFor_of_name pn_14) hisR ?_
  intro p e s m args below meth c s₁ Bd hml0 hP hK
  obtain ⟨rfl, hZ, hh⟩ := hP
  have hx := Bd.exec
  have hby := Bd.bytes
  have hml : c.maxLocals = 1 := hml0
  have hown : s.vm.findClass "com/example/attesta/attesta/contract/Malattia" = some m.cls := findClass_of_methodNamed Bd.named
  have hnm := (name_of_methodNamed Bd.named Bd.method).1
  have X0 : Stand p l e ({ frames := 0, cells := 0, slots := 0, locals := 0 } : Room) s m #[(.ref a1)] below meth c s₁ [] 0 0 := Stand.of_body Bd
  have e0 : s₁.heap = h0 := by rw [← hh, Bd.state]; rfl
  have N0 := Fr.nil n0
  show own_Go p.tables e below (own_Fin below s (Q14 Z a1 w2 h0 n0) ({ frames := 0, cells := 0, slots := 0, locals := 0 } : Room).cells ({ frames := 0, cells := 0, slots := 0, locals := 0 } : Room).slots) (s₁.setTop (entryFrame m #[(.ref a1)] 1))
  refine own_go (S' := s₁.setTop (mkF m 0 #[.val (.ref a1)] [])) (fun t k => castTop (ef_14 m a1) k) ?_
  show own_Go p.tables e below _ (s₁.setTop (mkF m 0 #[.val (.ref a1)] []))
  refine own_go (fun _ => XS.aloadN X0.here hx rfl (hb hby d14_0) rfl rfl) ?_
  show own_Go p.tables e below _ (s₁.setTop (mkF m 1 #[.val (.ref a1)] [(.ref a1)]))
  obtain ⟨T3, X3, e3, st3⟩ := getF X0 hx hZ hown (host := "") (Or.inl (hw _ (List.mem_of_getElem? (i := 61) rfl))) Via.refl e0 F_dataInizio_a1 (g := (mkF m 1 #[.val (.ref a1)] [(.ref a1)])) rfl rfl (hb hby d14_1)
  refine own_go st3 ?_
  show own_Go p.tables e below _ (T3.setTop (mkF m 4 #[.val (.ref a1)] [w2]))
  refine own_retA X3 Bd.notSynchronized hx Bd.returns rfl (own_narR r_w2) r_w2 (hb hby d14_4) (show Q14 Z a1 w2 h0 n0 _ T3.heap _ from by rw [e3]; exact ⟨rfl, N0, rfl⟩) (by decide) (by decide)
theorem d15_0 : decode prog_32_method_9_code 0 = .ok (.aload_n 0, 1) := by decide +kernel
theorem d15_1 : decode prog_32_method_9_code 1 = .ok (.getfield 19, 3) := by decide +kernel
theorem d15_4 : decode prog_32_method_9_code 4 = .ok (.areturn, 1) := by decide +kernel
theorem pn_15 : plainName "com/example/attesta/attesta/contract/Malattia" = true := by first | (simp [plainName, overriddenIn]; done) | decide +kernel
theorem ef_15 (m : MethodId) (a1 : Addr) : entryFrame m #[(.ref a1)] 1 = mkF m 0 #[.val (.ref a1)] [] := by first | (simp [entryFrame, mkF, argsToLocals, Value.category]; done) | rfl
def Q15 (Z : State) (a1 : Addr) (w2 : Value) (h0 : Heap) (n0 : Nat) (v : Option Value) (h : Heap) (L : List Loc) : Prop := v = some w2 ∧ Fr n0 L ∧ h = h0
set_option maxRecDepth 65536 in
set_option maxHeartbeats 40000000 in
theorem rm15 (l : Launch) (Z : State) (a0 : Array Value) (hw : ∀ d ∈ tables_1, d.before a0 Z = true) (ws : List Jvm.Cond) (a1 : Addr) (w2 : Value) (h0 : Heap) (n0 : Nat) (Z0 : n0 ≤ h0.size) (r_w2 : w2.isRef = true) (F_dataFine_a1 : Fld Z h0 a1 "com/example/attesta/attesta/contract/Malattia" "dataFine" "Ljava/lang/String;" w2) :
    MetFree l (⟨"com/example/attesta/attesta/contract/Malattia", "dataFine", "()Ljava/lang/String;"⟩ : MethodName) (head1 (Jvm.Cond.code (⟨"com/example/attesta/attesta/contract/Malattia", "dataFine", "()Ljava/lang/String;"⟩ : MethodName) prog_32_method_9_code 1 (some (.object "java/lang/String")) :: ws) ({ frames := 0, cells := 0, slots := 0, locals := 0 } : Room)) (fun a U => a = #[(.ref a1)] ∧ Z.Warmed39 U.vm ∧ U.heap = h0) (fun _ _ _ _ _ => True) (fun _ U o U' => ∃ v L, o = .returned v ∧ Q15 Z a1 w2 h0 n0 v U'.heap L ∧ FrameEnd U o U' L ({ frames := 0, cells := 0, slots := 0, locals := 0 } : Room).cells ({ frames := 0, cells := 0, slots := 0, locals := 0 } : Room).slots) := by
  refine MetFree.of_bodySF (plainFor_of_name pn_15) hisR ?_
  intro p e s m args below meth c s₁ Bd hml0 hP hK
  obtain ⟨rfl, hZ, hh⟩ := hP
  have hx := Bd.exec
  have hby := Bd.bytes
  have hml : c.maxLocals = 1 := hml0
  have hown : s.vm.findClass "com/example/attesta/attesta/contract/Malattia" = some m.cls := findClass_of_methodNamed Bd.named
  have hnm := (name_of_methodNamed Bd.named Bd.method).1
  have X0 : Stand p l e ({ frames := 0, cells := 0, slots := 0, locals := 0 } : Room) s m #[(.ref a1)] below meth c s₁ [] 0 0 := Stand.of_body Bd
  have e0 : s₁.heap = h0 := by rw [← hh, Bd.state]; rfl
  have N0 := Fr.nil n0
  show own_Go p.tables e below (own_Fin below s (Q15 Z a1 w2 h0 n0) ({ frames := 0, cells := 0, slots := 0, locals := 0 } : Room).cells ({ frames := 0, cells := 0, slots := 0, locals := 0 } : Room).slots) (s₁.setTop (entryFrame m #[(.ref a1)] 1))
  refine own_go (S' := s₁.setTop (mkF m 0 #[.val (.ref a1)] [])) (fun t k => castTop (ef_15 m a1) k) ?_
  show own_Go p.tables e below _ (s₁.setTop (mkF m 0 #[.val (.ref a1)] []))
  refine own_go (fun _ => XS.aloadN X0.here hx rfl (hb hby d15_0) rfl rfl) ?_
  show own_Go p.tables e below _ (s₁.setTop (mkF m 1 #[.val (.ref a1)] [(.ref a1)]))
  obtain ⟨T3, X3, e3, st3⟩ := getF X0 hx hZ hown (host := "") (Or.inl (hw _ (List.mem_of_getElem? (i := 63) rfl))) Via.refl e0 F_dataFine_a1 (g := (mkF m 1 #[.val (.ref a1)] [(.ref a1)])) rfl rfl (hb hby d15_1)
  refine own_go st3 ?_
  show own_Go p.tables e below _ (T3.setTop (mkF m 4 #[.val (.ref a1)] [w2]))
  refine own_retA X3 Bd.notSynchronized hx Bd.returns rfl (own_narR r_w2) r_w2 (hb hby d15_4) (show Q15 Z a1 w2 h0 n0 _ T3.heap _ from by rw [e3]; exact ⟨rfl, N0, rfl⟩) (by decide) (by decide)
theorem d16_0 : decode prog_32_method_10_code 0 = .ok (.aload_n 0, 1) := by decide +kernel
theorem d16_1 : decode prog_32_method_10_code 1 = .ok (.getfield 22, 3) := by decide +kernel
theorem d16_4 : decode prog_32_method_10_code 4 = .ok (.areturn, 1) := by decide +kernel
theorem pn_16 : plainName "com/example/attesta/attesta/contract/Malattia" = true := by first | (simp [plainName, overriddenIn]; done) | decide +kernel
theorem ef_16 (m : MethodId) (a1 : Addr) : entryFrame m #[(.ref a1)] 1 = mkF m 0 #[.val (.ref a1)] [] := by first | (simp [entryFrame, mkF, argsToLocals, Value.category]; done) | rfl
def Q16 (Z : State) (a1 : Addr) (w2 : Value) (h0 : Heap) (n0 : Nat) (v : Option Value) (h : Heap) (L : List Loc) : Prop := v = some w2 ∧ Fr n0 L ∧ h = h0
set_option maxRecDepth 65536 in
set_option maxHeartbeats 40000000 in
theorem rm16 (l : Launch) (Z : State) (a0 : Array Value) (hw : ∀ d ∈ tables_1, d.before a0 Z = true) (ws : List Jvm.Cond) (a1 : Addr) (w2 : Value) (h0 : Heap) (n0 : Nat) (Z0 : n0 ≤ h0.size) (r_w2 : w2.isRef = true) (F_visita_a1 : Fld Z h0 a1 "com/example/attesta/attesta/contract/Malattia" "visita" "Ljava/lang/String;" w2) :
    MetFree l (⟨"com/example/attesta/attesta/contract/Malattia", "visita", "()Ljava/lang/String;"⟩ : MethodName) (head1 (Jvm.Cond.code (⟨"com/example/attesta/attesta/contract/Malattia", "visita", "()Ljava/lang/String;"⟩ : MethodName) prog_32_method_10_code 1 (some (.object "java/lang/String")) :: ws) ({ frames := 0, cells := 0, slots := 0, locals := 0 } : Room)) (fun a U => a = #[(.ref a1)] ∧ Z.Warmed39 U.vm ∧ U.heap = h0) (fun _ _ _ _ _ => True) (fun _ U o U' => ∃ v L, o = .returned v ∧ Q16 Z a1 w2 h0 n0 v U'.heap L ∧ FrameEnd U o U' L ({ frames := 0, cells := 0, slots := 0, locals := 0 } : Room).cells ({ frames := 0, cells := 0, slots := 0, locals := 0 } : Room).slots) := by
  refine MetFree.of_bodySF (plainFor_of_name pn_16) hisR ?_
  intro p e s m args below meth c s₁ Bd hml0 hP hK
  obtain ⟨rfl, hZ, hh⟩ := hP
  have hx := Bd.exec
  have hby := Bd.bytes
  have hml : c.maxLocals = 1 := hml0
  have hown : s.vm.findClass "com/example/attesta/attesta/contract/Malattia" = some m.cls := findClass_of_methodNamed Bd.named
  have hnm := (name_of_methodNamed Bd.named Bd.method).1
  have X0 : Stand p l e ({ frames := 0, cells := 0, slots := 0, locals := 0 } : Room) s m #[(.ref a1)] below meth c s₁ [] 0 0 := Stand.of_body Bd
  have e0 : s₁.heap = h0 := by rw [← hh, Bd.state]; rfl
  have N0 := Fr.nil n0
  show own_Go p.tables e below (own_Fin below s (Q16 Z a1 w2 h0 n0) ({ frames := 0, cells := 0, slots := 0, locals := 0 } : Room).cells ({ frames := 0, cells := 0, slots := 0, locals := 0 } : Room).slots) (s₁.setTop (entryFrame m #[(.ref a1)] 1))
  refine own_go (S' := s₁.setTop (mkF m 0 #[.val (.ref a1)] [])) (fun t k => castTop (ef_16 m a1) k) ?_
  show own_Go p.tables e below _ (s₁.setTop (mkF m 0 #[.val (.ref a1)] []))
  refine own_go (fun _ => XS.aloadN X0.here hx rfl (hb hby d16_0) rfl rfl) ?_
  show own_Go p.tables e below _ (s₁.setTop (mkF m 1 #[.val (.ref a1)] [(.ref a1)]))
  obtain ⟨T3, X3, e3, st3⟩ := getF X0 hx hZ hown (host := "") (Or.inl (hw _ (List.mem_of_getElem? (i := 65) rfl))) Via.refl e0 F_visita_a1 (g := (mkF m 1 #[.val (.ref a1)] [(.ref a1)])) rfl rfl (hb hby d16_1)
  refine own_go st3 ?_
  show own_Go p.tables e below _ (T3.setTop (mkF m 4 #[.val (.ref a1)] [w2]))
  refine own_retA X3 Bd.notSynchronized hx Bd.returns rfl (own_narR r_w2) r_w2 (hb hby d16_4) (show Q16 Z a1 w2 h0 n0 _ T3.heap _ from by rw [e3]; exact ⟨rfl, N0, rfl⟩) (by decide) (by decide)
theorem d17_0 : decode prog_32_method_11_code 0 = .ok (.aload_n 0, 1) := by decide +kernel
theorem d17_1 : decode prog_32_method_11_code 1 = .ok (.getfield 25, 3) := by decide +kernel
theorem d17_4 : decode prog_32_method_11_code 4 = .ok (.areturn, 1) := by decide +kernel
theorem pn_17 : plainName "com/example/attesta/attesta/contract/Malattia" = true := by first | (simp [plainName, overriddenIn]; done) | decide +kernel
theorem ef_17 (m : MethodId) (a1 : Addr) : entryFrame m #[(.ref a1)] 1 = mkF m 0 #[.val (.ref a1)] [] := by first | (simp [entryFrame, mkF, argsToLocals, Value.category]; done) | rfl
def Q17 (Z : State) (a1 : Addr) (w2 : Value) (h0 : Heap) (n0 : Nat) (v : Option Value) (h : Heap) (L : List Loc) : Prop := v = some w2 ∧ Fr n0 L ∧ h = h0
set_option maxRecDepth 65536 in
set_option maxHeartbeats 40000000 in
theorem rm17 (l : Launch) (Z : State) (a0 : Array Value) (hw : ∀ d ∈ tables_1, d.before a0 Z = true) (ws : List Jvm.Cond) (a1 : Addr) (w2 : Value) (h0 : Heap) (n0 : Nat) (Z0 : n0 ≤ h0.size) (r_w2 : w2.isRef = true) (F_tipoCertificato_a1 : Fld Z h0 a1 "com/example/attesta/attesta/contract/Malattia" "tipoCertificato" "Ljava/lang/String;" w2) :
    MetFree l (⟨"com/example/attesta/attesta/contract/Malattia", "tipoCertificato", "()Ljava/lang/String;"⟩ : MethodName) (head1 (Jvm.Cond.code (⟨"com/example/attesta/attesta/contract/Malattia", "tipoCertificato", "()Ljava/lang/String;"⟩ : MethodName) prog_32_method_11_code 1 (some (.object "java/lang/String")) :: ws) ({ frames := 0, cells := 0, slots := 0, locals := 0 } : Room)) (fun a U => a = #[(.ref a1)] ∧ Z.Warmed39 U.vm ∧ U.heap = h0) (fun _ _ _ _ _ => True) (fun _ U o U' => ∃ v L, o = .returned v ∧ Q17 Z a1 w2 h0 n0 v U'.heap L ∧ FrameEnd U o U' L ({ frames := 0, cells := 0, slots := 0, locals := 0 } : Room).cells ({ frames := 0, cells := 0, slots := 0, locals := 0 } : Room).slots) := by
  refine MetFree.of_bodySF (plainFor_of_name pn_17) hisR ?_
  intro p e s m args below meth c s₁ Bd hml0 hP hK
  obtain ⟨rfl, hZ, hh⟩ := hP
  have hx := Bd.exec
  have hby := Bd.bytes
  have hml : c.maxLocals = 1 := hml0
  have hown : s.vm.findClass "com/example/attesta/attesta/contract/Malattia" = some m.cls := findClass_of_methodNamed Bd.named
  have hnm := (name_of_methodNamed Bd.named Bd.method).1
  have X0 : Stand p l e ({ frames := 0, cells := 0, slots := 0, locals := 0 } : Room) s m #[(.ref a1)] below meth c s₁ [] 0 0 := Stand.of_body Bd
  have e0 : s₁.heap = h0 := by rw [← hh, Bd.state]; rfl
  have N0 := Fr.nil n0
  show own_Go p.tables e below (own_Fin below s (Q17 Z a1 w2 h0 n0) ({ frames := 0, cells := 0, slots := 0, locals := 0 } : Room).cells ({ frames := 0, cells := 0, slots := 0, locals := 0 } : Room).slots) (s₁.setTop (entryFrame m #[(.ref a1)] 1))
  refine own_go (S' := s₁.setTop (mkF m 0 #[.val (.ref a1)] [])) (fun t k => castTop (ef_17 m a1) k) ?_
  show own_Go p.tables e below _ (s₁.setTop (mkF m 0 #[.val (.ref a1)] []))
  refine own_go (fun _ => XS.aloadN X0.here hx rfl (hb hby d17_0) rfl rfl) ?_
  show own_Go p.tables e below _ (s₁.setTop (mkF m 1 #[.val (.ref a1)] [(.ref a1)]))
  obtain ⟨T3, X3, e3, st3⟩ := getF X0 hx hZ hown (host := "") (Or.inl (hw _ (List.mem_of_getElem? (i := 67) rfl))) Via.refl e0 F_tipoCertificato_a1 (g := (mkF m 1 #[.val (.ref a1)] [(.ref a1)])) rfl rfl (hb hby d17_1)
  refine own_go st3 ?_
  show own_Go p.tables e below _ (T3.setTop (mkF m 4 #[.val (.ref a1)] [w2]))
  refine own_retA X3 Bd.notSynchronized hx Bd.returns rfl (own_narR r_w2) r_w2 (hb hby d17_4) (show Q17 Z a1 w2 h0 n0 _ T3.heap _ from by rw [e3]; exact ⟨rfl, N0, rfl⟩) (by decide) (by decide)
theorem d18_0 : decode prog_32_method_12_code 0 = .ok (.aload_n 0, 1) := by decide +kernel
theorem d18_1 : decode prog_32_method_12_code 1 = .ok (.getfield 28, 3) := by decide +kernel
theorem d18_4 : decode prog_32_method_12_code 4 = .ok (.areturn, 1) := by decide +kernel
theorem pn_18 : plainName "com/example/attesta/attesta/contract/Malattia" = true := by first | (simp [plainName, overriddenIn]; done) | decide +kernel
theorem ef_18 (m : MethodId) (a1 : Addr) : entryFrame m #[(.ref a1)] 1 = mkF m 0 #[.val (.ref a1)] [] := by first | (simp [entryFrame, mkF, argsToLocals, Value.category]; done) | rfl
def Q18 (Z : State) (a1 : Addr) (w2 : Value) (h0 : Heap) (n0 : Nat) (v : Option Value) (h : Heap) (L : List Loc) : Prop := v = some w2 ∧ Fr n0 L ∧ h = h0
set_option maxRecDepth 65536 in
set_option maxHeartbeats 40000000 in
theorem rm18 (l : Launch) (Z : State) (a0 : Array Value) (hw : ∀ d ∈ tables_1, d.before a0 Z = true) (ws : List Jvm.Cond) (a1 : Addr) (w2 : Value) (h0 : Heap) (n0 : Nat) (Z0 : n0 ≤ h0.size) (r_w2 : w2.isRef = true) (F_diagnosi_a1 : Fld Z h0 a1 "com/example/attesta/attesta/contract/Malattia" "diagnosi" "Lcom/example/attesta/attesta/contract/Diagnosi;" w2) :
    MetFree l (⟨"com/example/attesta/attesta/contract/Malattia", "diagnosi", "()Lcom/example/attesta/attesta/contract/Diagnosi;"⟩ : MethodName) (head1 (Jvm.Cond.code (⟨"com/example/attesta/attesta/contract/Malattia", "diagnosi", "()Lcom/example/attesta/attesta/contract/Diagnosi;"⟩ : MethodName) prog_32_method_12_code 1 (some (.object "com/example/attesta/attesta/contract/Diagnosi")) :: ws) ({ frames := 0, cells := 0, slots := 0, locals := 0 } : Room)) (fun a U => a = #[(.ref a1)] ∧ Z.Warmed39 U.vm ∧ U.heap = h0) (fun _ _ _ _ _ => True) (fun _ U o U' => ∃ v L, o = .returned v ∧ Q18 Z a1 w2 h0 n0 v U'.heap L ∧ FrameEnd U o U' L ({ frames := 0, cells := 0, slots := 0, locals := 0 } : Room).cells ({ frames := 0, cells := 0, slots := 0, locals := 0 } : Room).slots) := by
  refine MetFree.of_bodySF (plainFor_of_name pn_18) hisR ?_
  intro p e s m args below meth c s₁ Bd hml0 hP hK
  obtain ⟨rfl, hZ, hh⟩ := hP
  have hx := Bd.exec
  have hby := Bd.bytes
  have hml : c.maxLocals = 1 := hml0
  have hown : s.vm.findClass "com/example/attesta/attesta/contract/Malattia" = some m.cls := findClass_of_methodNamed Bd.named
  have hnm := (name_of_methodNamed Bd.named Bd.method).1
  have X0 : Stand p l e ({ frames := 0, cells := 0, slots := 0, locals := 0 } : Room) s m #[(.ref a1)] below meth c s₁ [] 0 0 := Stand.of_body Bd
  have e0 : s₁.heap = h0 := by rw [← hh, Bd.state]; rfl
  have N0 := Fr.nil n0
  show own_Go p.tables e below (own_Fin below s (Q18 Z a1 w2 h0 n0) ({ frames := 0, cells := 0, slots := 0, locals := 0 } : Room).cells ({ frames := 0, cells := 0, slots := 0, locals := 0 } : Room).slots) (s₁.setTop (entryFrame m #[(.ref a1)] 1))
  refine own_go (S' := s₁.setTop (mkF m 0 #[.val (.ref a1)] [])) (fun t k => castTop (ef_18 m a1) k) ?_
  show own_Go p.tables e below _ (s₁.setTop (mkF m 0 #[.val (.ref a1)] []))
  refine own_go (fun _ => XS.aloadN X0.here hx rfl (hb hby d18_0) rfl rfl) ?_
  show own_Go p.tables e below _ (s₁.setTop (mkF m 1 #[.val (.ref a1)] [(.ref a1)]))
  obtain ⟨T3, X3, e3, st3⟩ := getF X0 hx hZ hown (host := "") (Or.inl (hw _ (List.mem_of_getElem? (i := 69) rfl))) Via.refl e0 F_diagnosi_a1 (g := (mkF m 1 #[.val (.ref a1)] [(.ref a1)])) rfl rfl (hb hby d18_1)
  refine own_go st3 ?_
  show own_Go p.tables e below _ (T3.setTop (mkF m 4 #[.val (.ref a1)] [w2]))
  refine own_retA X3 Bd.notSynchronized hx Bd.returns rfl (own_narR r_w2) r_w2 (hb hby d18_4) (show Q18 Z a1 w2 h0 n0 _ T3.heap _ from by rw [e3]; exact ⟨rfl, N0, rfl⟩) (by decide) (by decide)
theorem d19_0 : decode prog_32_method_13_code 0 = .ok (.aload_n 0, 1) := by decide +kernel
theorem d19_1 : decode prog_32_method_13_code 1 = .ok (.getfield 32, 3) := by decide +kernel
theorem d19_4 : decode prog_32_method_13_code 4 = .ok (.areturn, 1) := by decide +kernel
theorem pn_19 : plainName "com/example/attesta/attesta/contract/Malattia" = true := by first | (simp [plainName, overriddenIn]; done) | decide +kernel
theorem ef_19 (m : MethodId) (a1 : Addr) : entryFrame m #[(.ref a1)] 1 = mkF m 0 #[.val (.ref a1)] [] := by first | (simp [entryFrame, mkF, argsToLocals, Value.category]; done) | rfl
def Q19 (Z : State) (a1 : Addr) (w2 : Value) (h0 : Heap) (n0 : Nat) (v : Option Value) (h : Heap) (L : List Loc) : Prop := v = some w2 ∧ Fr n0 L ∧ h = h0
set_option maxRecDepth 65536 in
set_option maxHeartbeats 40000000 in
theorem rm19 (l : Launch) (Z : State) (a0 : Array Value) (hw : ∀ d ∈ tables_1, d.before a0 Z = true) (ws : List Jvm.Cond) (a1 : Addr) (w2 : Value) (h0 : Heap) (n0 : Nat) (Z0 : n0 ≤ h0.size) (r_w2 : w2.isRef = true) (F_giornataLavorata_a1 : Fld Z h0 a1 "com/example/attesta/attesta/contract/Malattia" "giornataLavorata" "Ljava/lang/String;" w2) :
    MetFree l (⟨"com/example/attesta/attesta/contract/Malattia", "giornataLavorata", "()Ljava/lang/String;"⟩ : MethodName) (head1 (Jvm.Cond.code (⟨"com/example/attesta/attesta/contract/Malattia", "giornataLavorata", "()Ljava/lang/String;"⟩ : MethodName) prog_32_method_13_code 1 (some (.object "java/lang/String")) :: ws) ({ frames := 0, cells := 0, slots := 0, locals := 0 } : Room)) (fun a U => a = #[(.ref a1)] ∧ Z.Warmed39 U.vm ∧ U.heap = h0) (fun _ _ _ _ _ => True) (fun _ U o U' => ∃ v L, o = .returned v ∧ Q19 Z a1 w2 h0 n0 v U'.heap L ∧ FrameEnd U o U' L ({ frames := 0, cells := 0, slots := 0, locals := 0 } : Room).cells ({ frames := 0, cells := 0, slots := 0, locals := 0 } : Room).slots) := by
  refine MetFree.of_bodySF (plainFor_of_name pn_19) hisR ?_
  intro p e s m args below meth c s₁ Bd hml0 hP hK
  obtain ⟨rfl, hZ, hh⟩ := hP
  have hx := Bd.exec
  have hby := Bd.bytes
  have hml : c.maxLocals = 1 := hml0
  have hown : s.vm.findClass "com/example/attesta/attesta/contract/Malattia" = some m.cls := findClass_of_methodNamed Bd.named
  have hnm := (name_of_methodNamed Bd.named Bd.method).1
  have X0 : Stand p l e ({ frames := 0, cells := 0, slots := 0, locals := 0 } : Room) s m #[(.ref a1)] below meth c s₁ [] 0 0 := Stand.of_body Bd
  have e0 : s₁.heap = h0 := by rw [← hh, Bd.state]; rfl
  have N0 := Fr.nil n0
  show own_Go p.tables e below (own_Fin below s (Q19 Z a1 w2 h0 n0) ({ frames := 0, cells := 0, slots := 0, locals := 0 } : Room).cells ({ frames := 0, cells := 0, slots := 0, locals := 0 } : Room).slots) (s₁.setTop (entryFrame m #[(.ref a1)] 1))
  refine own_go (S' := s₁.setTop (mkF m 0 #[.val (.ref a1)] [])) (fun t k => castTop (ef_19 m a1) k) ?_
  show own_Go p.tables e below _ (s₁.setTop (mkF m 0 #[.val (.ref a1)] []))
  refine own_go (fun _ => XS.aloadN X0.here hx rfl (hb hby d19_0) rfl rfl) ?_
  show own_Go p.tables e below _ (s₁.setTop (mkF m 1 #[.val (.ref a1)] [(.ref a1)]))
  obtain ⟨T3, X3, e3, st3⟩ := getF X0 hx hZ hown (host := "") (Or.inl (hw _ (List.mem_of_getElem? (i := 71) rfl))) Via.refl e0 F_giornataLavorata_a1 (g := (mkF m 1 #[.val (.ref a1)] [(.ref a1)])) rfl rfl (hb hby d19_1)
  refine own_go st3 ?_
  show own_Go p.tables e below _ (T3.setTop (mkF m 4 #[.val (.ref a1)] [w2]))
  refine own_retA X3 Bd.notSynchronized hx Bd.returns rfl (own_narR r_w2) r_w2 (hb hby d19_4) (show Q19 Z a1 w2 h0 n0 _ T3.heap _ from by rw [e3]; exact ⟨rfl, N0, rfl⟩) (by decide) (by decide)
theorem d20_0 : decode prog_32_method_14_code 0 = .ok (.aload_n 0, 1) := by decide +kernel
theorem d20_1 : decode prog_32_method_14_code 1 = .ok (.getfield 35, 3) := by decide +kernel
theorem d20_4 : decode prog_32_method_14_code 4 = .ok (.areturn, 1) := by decide +kernel
theorem pn_20 : plainName "com/example/attesta/attesta/contract/Malattia" = true := by first | (simp [plainName, overriddenIn]; done) | decide +kernel
theorem ef_20 (m : MethodId) (a1 : Addr) : entryFrame m #[(.ref a1)] 1 = mkF m 0 #[.val (.ref a1)] [] := by first | (simp [entryFrame, mkF, argsToLocals, Value.category]; done) | rfl
def Q20 (Z : State) (a1 : Addr) (w2 : Value) (h0 : Heap) (n0 : Nat) (v : Option Value) (h : Heap) (L : List Loc) : Prop := v = some w2 ∧ Fr n0 L ∧ h = h0
set_option maxRecDepth 65536 in
set_option maxHeartbeats 40000000 in
theorem rm20 (l : Launch) (Z : State) (a0 : Array Value) (hw : ∀ d ∈ tables_1, d.before a0 Z = true) (ws : List Jvm.Cond) (a1 : Addr) (w2 : Value) (h0 : Heap) (n0 : Nat) (Z0 : n0 ≤ h0.size) (r_w2 : w2.isRef = true) (F_trauma_a1 : Fld Z h0 a1 "com/example/attesta/attesta/contract/Malattia" "trauma" "Ljava/lang/String;" w2) :
    MetFree l (⟨"com/example/attesta/attesta/contract/Malattia", "trauma", "()Ljava/lang/String;"⟩ : MethodName) (head1 (Jvm.Cond.code (⟨"com/example/attesta/attesta/contract/Malattia", "trauma", "()Ljava/lang/String;"⟩ : MethodName) prog_32_method_14_code 1 (some (.object "java/lang/String")) :: ws) ({ frames := 0, cells := 0, slots := 0, locals := 0 } : Room)) (fun a U => a = #[(.ref a1)] ∧ Z.Warmed39 U.vm ∧ U.heap = h0) (fun _ _ _ _ _ => True) (fun _ U o U' => ∃ v L, o = .returned v ∧ Q20 Z a1 w2 h0 n0 v U'.heap L ∧ FrameEnd U o U' L ({ frames := 0, cells := 0, slots := 0, locals := 0 } : Room).cells ({ frames := 0, cells := 0, slots := 0, locals := 0 } : Room).slots) := by
  refine MetFree.of_bodySF (plainFor_of_name pn_20) hisR ?_
  intro p e s m args below meth c s₁ Bd hml0 hP hK
  obtain ⟨rfl, hZ, hh⟩ := hP
  have hx := Bd.exec
  have hby := Bd.bytes
  have hml : c.maxLocals = 1 := hml0
  have hown : s.vm.findClass "com/example/attesta/attesta/contract/Malattia" = some m.cls := findClass_of_methodNamed Bd.named
  have hnm := (name_of_methodNamed Bd.named Bd.method).1
  have X0 : Stand p l e ({ frames := 0, cells := 0, slots := 0, locals := 0 } : Room) s m #[(.ref a1)] below meth c s₁ [] 0 0 := Stand.of_body Bd
  have e0 : s₁.heap = h0 := by rw [← hh, Bd.state]; rfl
  have N0 := Fr.nil n0
  show own_Go p.tables e below (own_Fin below s (Q20 Z a1 w2 h0 n0) ({ frames := 0, cells := 0, slots := 0, locals := 0 } : Room).cells ({ frames := 0, cells := 0, slots := 0, locals := 0 } : Room).slots) (s₁.setTop (entryFrame m #[(.ref a1)] 1))
  refine own_go (S' := s₁.setTop (mkF m 0 #[.val (.ref a1)] [])) (fun t k => castTop (ef_20 m a1) k) ?_
  show own_Go p.tables e below _ (s₁.setTop (mkF m 0 #[.val (.ref a1)] []))
  refine own_go (fun _ => XS.aloadN X0.here hx rfl (hb hby d20_0) rfl rfl) ?_
  show own_Go p.tables e below _ (s₁.setTop (mkF m 1 #[.val (.ref a1)] [(.ref a1)]))
  obtain ⟨T3, X3, e3, st3⟩ := getF X0 hx hZ hown (host := "") (Or.inl (hw _ (List.mem_of_getElem? (i := 73) rfl))) Via.refl e0 F_trauma_a1 (g := (mkF m 1 #[.val (.ref a1)] [(.ref a1)])) rfl rfl (hb hby d20_1)
  refine own_go st3 ?_
  show own_Go p.tables e below _ (T3.setTop (mkF m 4 #[.val (.ref a1)] [w2]))
  refine own_retA X3 Bd.notSynchronized hx Bd.returns rfl (own_narR r_w2) r_w2 (hb hby d20_4) (show Q20 Z a1 w2 h0 n0 _ T3.heap _ from by rw [e3]; exact ⟨rfl, N0, rfl⟩) (by decide) (by decide)
theorem d21_0 : decode prog_32_method_15_code 0 = .ok (.aload_n 0, 1) := by decide +kernel
theorem d21_1 : decode prog_32_method_15_code 1 = .ok (.getfield 38, 3) := by decide +kernel
theorem d21_4 : decode prog_32_method_15_code 4 = .ok (.areturn, 1) := by decide +kernel
theorem pn_21 : plainName "com/example/attesta/attesta/contract/Malattia" = true := by first | (simp [plainName, overriddenIn]; done) | decide +kernel
theorem ef_21 (m : MethodId) (a1 : Addr) : entryFrame m #[(.ref a1)] 1 = mkF m 0 #[.val (.ref a1)] [] := by first | (simp [entryFrame, mkF, argsToLocals, Value.category]; done) | rfl
def Q21 (Z : State) (a1 : Addr) (w2 : Value) (h0 : Heap) (n0 : Nat) (v : Option Value) (h : Heap) (L : List Loc) : Prop := v = some w2 ∧ Fr n0 L ∧ h = h0
set_option maxRecDepth 65536 in
set_option maxHeartbeats 40000000 in
theorem rm21 (l : Launch) (Z : State) (a0 : Array Value) (hw : ∀ d ∈ tables_1, d.before a0 Z = true) (ws : List Jvm.Cond) (a1 : Addr) (w2 : Value) (h0 : Heap) (n0 : Nat) (Z0 : n0 ≤ h0.size) (r_w2 : w2.isRef = true) (F_agevolazioni_a1 : Fld Z h0 a1 "com/example/attesta/attesta/contract/Malattia" "agevolazioni" "Ljava/lang/String;" w2) :
    MetFree l (⟨"com/example/attesta/attesta/contract/Malattia", "agevolazioni", "()Ljava/lang/String;"⟩ : MethodName) (head1 (Jvm.Cond.code (⟨"com/example/attesta/attesta/contract/Malattia", "agevolazioni", "()Ljava/lang/String;"⟩ : MethodName) prog_32_method_15_code 1 (some (.object "java/lang/String")) :: ws) ({ frames := 0, cells := 0, slots := 0, locals := 0 } : Room)) (fun a U => a = #[(.ref a1)] ∧ Z.Warmed39 U.vm ∧ U.heap = h0) (fun _ _ _ _ _ => True) (fun _ U o U' => ∃ v L, o = .returned v ∧ Q21 Z a1 w2 h0 n0 v U'.heap L ∧ FrameEnd U o U' L ({ frames := 0, cells := 0, slots := 0, locals := 0 } : Room).cells ({ frames := 0, cells := 0, slots := 0, locals := 0 } : Room).slots) := by
  refine MetFree.of_bodySF (plainFor_of_name pn_21) hisR ?_
  intro p e s m args below meth c s₁ Bd hml0 hP hK
  obtain ⟨rfl, hZ, hh⟩ := hP
  have hx := Bd.exec
  have hby := Bd.bytes
  have hml : c.maxLocals = 1 := hml0
  have hown : s.vm.findClass "com/example/attesta/attesta/contract/Malattia" = some m.cls := findClass_of_methodNamed Bd.named
  have hnm := (name_of_methodNamed Bd.named Bd.method).1
  have X0 : Stand p l e ({ frames := 0, cells := 0, slots := 0, locals := 0 } : Room) s m #[(.ref a1)] below meth c s₁ [] 0 0 := Stand.of_body Bd
  have e0 : s₁.heap = h0 := by rw [← hh, Bd.state]; rfl
  have N0 := Fr.nil n0
  show own_Go p.tables e below (own_Fin below s (Q21 Z a1 w2 h0 n0) ({ frames := 0, cells := 0, slots := 0, locals := 0 } : Room).cells ({ frames := 0, cells := 0, slots := 0, locals := 0 } : Room).slots) (s₁.setTop (entryFrame m #[(.ref a1)] 1))
  refine own_go (S' := s₁.setTop (mkF m 0 #[.val (.ref a1)] [])) (fun t k => castTop (ef_21 m a1) k) ?_
  show own_Go p.tables e below _ (s₁.setTop (mkF m 0 #[.val (.ref a1)] []))
  refine own_go (fun _ => XS.aloadN X0.here hx rfl (hb hby d21_0) rfl rfl) ?_
  show own_Go p.tables e below _ (s₁.setTop (mkF m 1 #[.val (.ref a1)] [(.ref a1)]))
  obtain ⟨T3, X3, e3, st3⟩ := getF X0 hx hZ hown (host := "") (Or.inl (hw _ (List.mem_of_getElem? (i := 75) rfl))) Via.refl e0 F_agevolazioni_a1 (g := (mkF m 1 #[.val (.ref a1)] [(.ref a1)])) rfl rfl (hb hby d21_1)
  refine own_go st3 ?_
  show own_Go p.tables e below _ (T3.setTop (mkF m 4 #[.val (.ref a1)] [w2]))
  refine own_retA X3 Bd.notSynchronized hx Bd.returns rfl (own_narR r_w2) r_w2 (hb hby d21_4) (show Q21 Z a1 w2 h0 n0 _ T3.heap _ from by rw [e3]; exact ⟨rfl, N0, rfl⟩) (by decide) (by decide)
theorem pn_0 : plainName "com/example/attesta/attesta/contract/MalattiaWithDataFinePinLaw" = true := by first | (simp [plainName, overriddenIn]; done) | decide +kernel
theorem pd_0 : parseMethodDescriptor "(IIII)Ljava/lang/String;" = some ⟨[.int, .int, .int, .int], some (.object "java/lang/String")⟩ := by decide +kernel
theorem pd_7 : parseMethodDescriptor "(Ljava/lang/String;Ljava/lang/String;)V" = some ⟨[(.object "java/lang/String"), (.object "java/lang/String")], none⟩ := by decide +kernel
theorem pd_9 : parseMethodDescriptor "(Ljava/lang/String;)Lcom/example/attesta/attesta/contract/Malattia;" = some ⟨[(.object "java/lang/String")], some (.object "com/example/attesta/attesta/contract/Malattia")⟩ := by decide +kernel
theorem pd_10 : parseMethodDescriptor "()Ljava/lang/String;" = some ⟨[], some (.object "java/lang/String")⟩ := by decide +kernel
theorem pd_11 : parseMethodDescriptor "()Lcom/example/attesta/attesta/contract/Diagnosi;" = some ⟨[], some (.object "com/example/attesta/attesta/contract/Diagnosi")⟩ := by decide +kernel
theorem ef_0 (m : MethodId) (p1 : Int32) (p2 : Int32) (p3 : Int32) (p4 : Int32) : entryFrame m #[(.int p1), (.int p2), (.int p3), (.int p4)] maxLocals = mkF m 0 #[.val (.int p1), .val (.int p2), .val (.int p3), .val (.int p4), .unset, .unset, .unset, .unset, .unset, .unset, .unset, .unset, .unset, .unset, .unset, .unset, .unset] [] := by first | (simp [entryFrame, mkF, argsToLocals, Value.category, maxLocals]; done) | rfl
def Q0 (Z : State) (p1 : Int32) (p2 : Int32) (p3 : Int32) (p4 : Int32) (csz : Int32) (h0 : Heap) (n0 : Nat) (v : Option Value) (h : Heap) (L : List Loc) : Prop := v = some (.int (1 : Int32)) ∧ Fr n0 L
set_option maxRecDepth 65536 in
set_option maxHeartbeats 40000000 in
theorem rm0 (l : Launch) (Z : State) (a0 : Array Value) (hw : ∀ d ∈ tables_1, d.before a0 Z = true) (ws : List Jvm.Cond) (p1 : Int32) (p2 : Int32) (p3 : Int32) (p4 : Int32) (csz : Int32) (h0 : Heap) (n0 : Nat) (Z0 : n0 ≤ h0.size) (S_CS : Sta Z Z.heap "java/lang/String" "COMPACT_STRINGS" "Z" (.int csz)) (hcs : ¬ csz = 0) (O0 : Old Z n0 h0) :
    MetFree l x (head1 (Jvm.Cond.code x code maxLocals ret :: ws) room_1) (fun a U => a = #[(.int p1), (.int p2), (.int p3), (.int p4)] ∧ Z.Warmed39 U.vm ∧ U.heap = h0) (fun _ _ _ _ _ => True) (fun _ U o U' => ∃ v L, o = .returned v ∧ Q0 Z p1 p2 p3 p4 csz h0 n0 v U'.heap L ∧ FrameEnd U o U' L 88 256) := by
  refine MetFree.of_bodySF (plainFor_of_name pn_0) hisR ?_
  intro p e s m args below meth c s₁ Bd hml0 hP hK
  obtain ⟨rfl, hZ, hh⟩ := hP
  have hx := Bd.exec
  have hby := Bd.bytes
  have hml : c.maxLocals = 17 := hml0
  have hown : s.vm.findClass "com/example/attesta/attesta/contract/MalattiaWithDataFinePinLaw" = some m.cls := findClass_of_methodNamed Bd.named
  have hnm := (name_of_methodNamed Bd.named Bd.method).1
  have X0 : Stand p l e room_1 s m #[(.int p1), (.int p2), (.int p3), (.int p4)] below meth c s₁ [] 0 0 := Stand.of_body Bd
  have e0 : s₁.heap = h0 := by rw [← hh, Bd.state]; rfl
  have N0 := Fr.nil n0
  show own_Go p.tables e below (own_Fin below s (Q0 Z p1 p2 p3 p4 csz h0 n0) 88 256) (s₁.setTop (entryFrame m #[(.int p1), (.int p2), (.int p3), (.int p4)] maxLocals))
  refine own_go (S' := s₁.setTop (mkF m 0 #[.val (.int p1), .val (.int p2), .val (.int p3), .val (.int p4), .unset, .unset, .unset, .unset, .unset, .unset, .unset, .unset, .unset, .unset, .unset, .unset, .unset] [])) (fun t k => castTop (ef_0 m p1 p2 p3 p4) k) ?_
  show own_Go p.tables e below _ (s₁.setTop (mkF m 0 #[.val (.int p1), .val (.int p2), .val (.int p3), .val (.int p4), .unset, .unset, .unset, .unset, .unset, .unset, .unset, .unset, .unset, .unset, .unset, .unset, .unset] []))
  refine own_go (fun _ => XS.iloadN X0.here hx rfl (hb hby at_0) rfl) ?_
  show own_Go p.tables e below _ (s₁.setTop (mkF m 1 #[.val (.int p1), .val (.int p2), .val (.int p3), .val (.int p4), .unset, .unset, .unset, .unset, .unset, .unset, .unset, .unset, .unset, .unset, .unset, .unset, .unset] [(.int p1)]))
  refine own_go (fun _ => XS.iconst X0.here hx rfl (hb hby at_1)) ?_
  show own_Go p.tables e below _ (s₁.setTop (mkF m 2 #[.val (.int p1), .val (.int p2), .val (.int p3), .val (.int p4), .unset, .unset, .unset, .unset, .unset, .unset, .unset, .unset, .unset, .unset, .unset, .unset, .unset] [(.int (0 : Int32)), (.int p1)]))
  refine own_go (fun _ => XS.iloadN X0.here hx rfl (hb hby at_2) rfl) ?_
  show own_Go p.tables e below _ (s₁.setTop (mkF m 3 #[.val (.int p1), .val (.int p2), .val (.int p3), .val (.int p4), .unset, .unset, .unset, .unset, .unset, .unset, .unset, .unset, .unset, .unset, .unset, .unset, .unset] [(.int p4), (.int (0 : Int32)), (.int p1)]))
  refine own_go (fun _ => XS.iconst X0.here hx rfl (hb hby at_3)) ?_
  show own_Go p.tables e below _ (s₁.setTop (mkF m 4 #[.val (.int p1), .val (.int p2), .val (.int p3), .val (.int p4), .unset, .unset, .unset, .unset, .unset, .unset, .unset, .unset, .unset, .unset, .unset, .unset, .unset] [(.int (0 : Int32)), (.int p4), (.int (0 : Int32)), (.int p1)]))
  obtain ⟨v5, T5, L5, X5, hQ5, st5⟩ := own_tidyS X0 (Jvm.LawKit.callS X0 hx (y := (⟨"com/example/attesta/attesta/contract/MalattiaWithDataFinePinLaw", "mk", "(IIII)Ljava/lang/String;"⟩ : MethodName)) hown (mvT hZ (hw _ (List.mem_of_getElem? (i := 0) rfl))) (mvT hZ (hw _ (List.mem_of_getElem? (i := 1) rfl))) (mvT hZ (hw _ (List.mem_of_getElem? (i := 2) rfl))) (mvT hZ (hw _ (List.mem_of_getElem? (i := 3) rfl))) (by decide) (backOf (W := 0) (rm1 l Z a0 hw [] p1 (0 : Int32) p4 (0 : Int32) csz h0 n0 Z0 S_CS (by first | assumption | rfl) O0) hZ (hw _ (List.mem_of_getElem? (i := 3) rfl)) (hw _ (List.mem_of_getElem? (i := 2) rfl)) (by decide) (by decide)) (g := (mkF m 4 #[.val (.int p1), .val (.int p2), .val (.int p3), .val (.int p4), .unset, .unset, .unset, .unset, .unset, .unset, .unset, .unset, .unset, .unset, .unset, .unset, .unset] [(.int (0 : Int32)), (.int p4), (.int (0 : Int32)), (.int p1)])) rfl (by rw [hml]; rfl) (argsL := [(.int p1), (.int (0 : Int32)), (.int p4), (.int (0 : Int32))]) (rest := []) (lenOf pd_0 rfl) rfl (by show 2 * 0 + _ ≤ _; exact Nat.le_of_eq rfl) (hb hby at_4) (fun _ _ => ⟨rfl, e0, (by decide : 0 + 3 ≤ _), (by decide : 0 + 6 ≤ _)⟩)) (c' := 3) (n' := 6) rfl rfl
  obtain ⟨⟨w5, rfl, r5⟩, N5q, Kc5⟩ := hQ5
  have N5 := Fr.app N0 N5q
  refine own_go st5 ?_
  have K5 : Keep h0 T5.heap [] := (Keep.refl h0 []).trans Kc5 all0
  show own_Go p.tables e below _ (T5.setTop (mkF m 7 #[.val (.int p1), .val (.int p2), .val (.int p3), .val (.int p4), .unset, .unset, .unset, .unset, .unset, .unset, .unset, .unset, .unset, .unset, .unset, .unset, .unset] [w5]))
  refine own_go (fun _ => XS.astore X5.here hx rfl (hb hby at_7) rfl r5 (l' := #[.val (.int p1), .val (.int p2), .val (.int p3), .val (.int p4), .val w5, .unset, .unset, .unset, .unset, .unset, .unset, .unset, .unset, .unset, .unset, .unset, .unset]) (by rcases ref_cases r5 with rfl | ⟨z_w5, rfl⟩; all_goals rfl)) ?_
  show own_Go p.tables e below _ (T5.setTop (mkF m 9 #[.val (.int p1), .val (.int p2), .val (.int p3), .val (.int p4), .val w5, .unset, .unset, .unset, .unset, .unset, .unset, .unset, .unset, .unset, .unset, .unset, .unset] []))
  refine own_go (fun _ => XS.iloadN X5.here hx rfl (hb hby at_9) rfl) ?_
  show own_Go p.tables e below _ (T5.setTop (mkF m 10 #[.val (.int p1), .val (.int p2), .val (.int p3), .val (.int p4), .val w5, .unset, .unset, .unset, .unset, .unset, .unset, .unset, .unset, .unset, .unset, .unset, .unset] [(.int p1)]))
  refine own_go (fun _ => XS.bipush X5.here hx rfl (hb hby at_10)) ?_
  show own_Go p.tables e below _ (T5.setTop (mkF m 12 #[.val (.int p1), .val (.int p2), .val (.int p3), .val (.int p4), .val w5, .unset, .unset, .unset, .unset, .unset, .unset, .unset, .unset, .unset, .unset, .unset, .unset] [(.int (8 : Int32)), (.int p1)]))
  refine own_go (fun _ => XS.iloadN X5.here hx rfl (hb hby at_12) rfl) ?_
  show own_Go p.tables e below _ (T5.setTop (mkF m 13 #[.val (.int p1), .val (.int p2), .val (.int p3), .val (.int p4), .val w5, .unset, .unset, .unset, .unset, .unset, .unset, .unset, .unset, .unset, .unset, .unset, .unset] [(.int p4), (.int (8 : Int32)), (.int p1)]))
  refine own_go (fun _ => XS.iconst X5.here hx rfl (hb hby at_13)) ?_
  show own_Go p.tables e below _ (T5.setTop (mkF m 14 #[.val (.int p1), .val (.int p2), .val (.int p3), .val (.int p4), .val w5, .unset, .unset, .unset, .unset, .unset, .unset, .unset, .unset, .unset, .unset, .unset, .unset] [(.int (1 : Int32)), (.int p4), (.int (8 : Int32)), (.int p1)]))
  obtain ⟨v6, T6, L6, X6, hQ6, st6⟩ := own_tidyS X5 (Jvm.LawKit.callS X5 hx (y := (⟨"com/example/attesta/attesta/contract/MalattiaWithDataFinePinLaw", "mk", "(IIII)Ljava/lang/String;"⟩ : MethodName)) hown (mvT hZ (hw _ (List.mem_of_getElem? (i := 0) rfl))) (mvT hZ (hw _ (List.mem_of_getElem? (i := 1) rfl))) (mvT hZ (hw _ (List.mem_of_getElem? (i := 2) rfl))) (mvT hZ (hw _ (List.mem_of_getElem? (i := 3) rfl))) (by decide) (backOf (W := 0) (rm1 l Z a0 hw [] p1 (8 : Int32) p4 (1 : Int32) csz T5.heap n0 (Nat.le_trans Z0 Kc5.1) S_CS (by first | assumption | rfl) (O0.keep Kc5 all0)) hZ (hw _ (List.mem_of_getElem? (i := 3) rfl)) (hw _ (List.mem_of_getElem? (i := 2) rfl)) (by decide) (by decide)) (g := (mkF m 14 #[.val (.int p1), .val (.int p2), .val (.int p3), .val (.int p4), .val w5, .unset, .unset, .unset, .unset, .unset, .unset, .unset, .unset, .unset, .unset, .unset, .unset] [(.int (1 : Int32)), (.int p4), (.int (8 : Int32)), (.int p1)])) rfl (by rw [hml]; rfl) (argsL := [(.int p1), (.int (8 : Int32)), (.int p4), (.int (1 : Int32))]) (rest := []) (lenOf pd_0 rfl) rfl (by show 2 * 0 + _ ≤ _; exact Nat.le_of_eq rfl) (hb hby at_14) (fun _ _ => ⟨rfl, rfl, (by decide : 3 + 3 ≤ _), (by decide : 6 + 6 ≤ _)⟩)) (c' := 6) (n' := 12) rfl rfl
  obtain ⟨⟨w6, rfl, r6⟩, N6q, Kc6⟩ := hQ6
  have N6 := Fr.app N5 N6q
  refine own_go st6 ?_
  have K6 : Keep h0 T6.heap [] := K5.trans Kc6 all0
  show own_Go p.tables e below _ (T6.setTop (mkF m 17 #[.val (.int p1), .val (.int p2), .val (.int p3), .val (.int p4), .val w5, .unset, .unset, .unset, .unset, .unset, .unset, .unset, .unset, .unset, .unset, .unset, .unset] [w6]))
  refine own_go (fun _ => XS.astore X6.here hx rfl (hb hby at_17) rfl r6 (l' := #[.val (.int p1), .val (.int p2), .val (.int p3), .val (.int p4), .val w5, .val w6, .unset, .unset, .unset, .unset, .unset, .unset, .unset, .unset, .unset, .unset, .unset]) (by rcases ref_cases r6 with rfl | ⟨z_w6, rfl⟩; all_goals rcases ref_cases r5 with rfl | ⟨z_w5, rfl⟩; all_goals rfl)) ?_
  show own_Go p.tables e below _ (T6.setTop (mkF m 19 #[.val (.int p1), .val (.int p2), .val (.int p3), .val (.int p4), .val w5, .val w6, .unset, .unset, .unset, .unset, .unset, .unset, .unset, .unset, .unset, .unset, .unset] []))
  refine own_go (fun _ => XS.iloadN X6.here hx rfl (hb hby at_19) rfl) ?_
  show own_Go p.tables e below _ (T6.setTop (mkF m 20 #[.val (.int p1), .val (.int p2), .val (.int p3), .val (.int p4), .val w5, .val w6, .unset, .unset, .unset, .unset, .unset, .unset, .unset, .unset, .unset, .unset, .unset] [(.int p1)]))
  refine own_go (fun _ => XS.bipush X6.here hx rfl (hb hby at_20)) ?_
  show own_Go p.tables e below _ (T6.setTop (mkF m 22 #[.val (.int p1), .val (.int p2), .val (.int p3), .val (.int p4), .val w5, .val w6, .unset, .unset, .unset, .unset, .unset, .unset, .unset, .unset, .unset, .unset, .unset] [(.int (16 : Int32)), (.int p1)]))
  refine own_go (fun _ => XS.iloadN X6.here hx rfl (hb hby at_22) rfl) ?_
  show own_Go p.tables e below _ (T6.setTop (mkF m 23 #[.val (.int p1), .val (.int p2), .val (.int p3), .val (.int p4), .val w5, .val w6, .unset, .unset, .unset, .unset, .unset, .unset, .unset, .unset, .unset, .unset, .unset] [(.int p4), (.int (16 : Int32)), (.int p1)]))
  refine own_go (fun _ => XS.iconst X6.here hx rfl (hb hby at_23)) ?_
  show own_Go p.tables e below _ (T6.setTop (mkF m 24 #[.val (.int p1), .val (.int p2), .val (.int p3), .val (.int p4), .val w5, .val w6, .unset, .unset, .unset, .unset, .unset, .unset, .unset, .unset, .unset, .unset, .unset] [(.int (2 : Int32)), (.int p4), (.int (16 : Int32)), (.int p1)]))
  obtain ⟨v7, T7, L7, X7, hQ7, st7⟩ := own_tidyS X6 (Jvm.LawKit.callS X6 hx (y := (⟨"com/example/attesta/attesta/contract/MalattiaWithDataFinePinLaw", "mk", "(IIII)Ljava/lang/String;"⟩ : MethodName)) hown (mvT hZ (hw _ (List.mem_of_getElem? (i := 0) rfl))) (mvT hZ (hw _ (List.mem_of_getElem? (i := 1) rfl))) (mvT hZ (hw _ (List.mem_of_getElem? (i := 2) rfl))) (mvT hZ (hw _ (List.mem_of_getElem? (i := 3) rfl))) (by decide) (backOf (W := 0) (rm1 l Z a0 hw [] p1 (16 : Int32) p4 (2 : Int32) csz T6.heap n0 (Nat.le_trans (Nat.le_trans Z0 Kc5.1) Kc6.1) S_CS (by first | assumption | rfl) ((O0.keep Kc5 all0).keep Kc6 all0)) hZ (hw _ (List.mem_of_getElem? (i := 3) rfl)) (hw _ (List.mem_of_getElem? (i := 2) rfl)) (by decide) (by decide)) (g := (mkF m 24 #[.val (.int p1), .val (.int p2), .val (.int p3), .val (.int p4), .val w5, .val w6, .unset, .unset, .unset, .unset, .unset, .unset, .unset, .unset, .unset, .unset, .unset] [(.int (2 : Int32)), (.int p4), (.int (16 : Int32)), (.int p1)])) rfl (by rw [hml]; rfl) (argsL := [(.int p1), (.int (16 : Int32)), (.int p4), (.int (2 : Int32))]) (rest := []) (lenOf pd_0 rfl) rfl (by show 2 * 0 + _ ≤ _; exact Nat.le_of_eq rfl) (hb hby at_24) (fun _ _ => ⟨rfl, rfl, (by decide : 6 + 3 ≤ _), (by decide : 12 + 6 ≤ _)⟩)) (c' := 9) (n' := 18) rfl rfl
  obtain ⟨⟨w7, rfl, r7⟩, N7q, Kc7⟩ := hQ7
  have N7 := Fr.app N6 N7q
  refine own_go st7 ?_
  have K7 : Keep h0 T7.heap [] := K6.trans Kc7 all0
  show own_Go p.tables e below _ (T7.setTop (mkF m 27 #[.val (.int p1), .val (.int p2), .val (.int p3), .val (.int p4), .val w5, .val w6, .unset, .unset, .unset, .unset, .unset, .unset, .unset, .unset, .unset, .unset, .unset] [w7]))
  refine own_go (fun _ => XS.astore X7.here hx rfl (hb hby at_27) rfl r7 (l' := #[.val (.int p1), .val (.int p2), .val (.int p3), .val (.int p4), .val w5, .val w6, .val w7, .unset, .unset, .unset, .unset, .unset, .unset, .unset, .unset, .unset, .unset]) (by rcases ref_cases r7 with rfl | ⟨z_w7, rfl⟩; all_goals rcases ref_cases r6 with rfl | ⟨z_w6, rfl⟩; all_goals rfl)) ?_
  show own_Go p.tables e below _ (T7.setTop (mkF m 29 #[.val (.int p1), .val (.int p2), .val (.int p3), .val (.int p4), .val w5, .val w6, .val w7, .unset, .unset, .unset, .unset, .unset, .unset, .unset, .unset, .unset, .unset] []))
  refine own_go (fun _ => XS.iloadN X7.here hx rfl (hb hby at_29) rfl) ?_
  show own_Go p.tables e below _ (T7.setTop (mkF m 30 #[.val (.int p1), .val (.int p2), .val (.int p3), .val (.int p4), .val w5, .val w6, .val w7, .unset, .unset, .unset, .unset, .unset, .unset, .unset, .unset, .unset, .unset] [(.int p1)]))
  refine own_go (fun _ => XS.bipush X7.here hx rfl (hb hby at_30)) ?_
  show own_Go p.tables e below _ (T7.setTop (mkF m 32 #[.val (.int p1), .val (.int p2), .val (.int p3), .val (.int p4), .val w5, .val w6, .val w7, .unset, .unset, .unset, .unset, .unset, .unset, .unset, .unset, .unset, .unset] [(.int (24 : Int32)), (.int p1)]))
  refine own_go (fun _ => XS.iloadN X7.here hx rfl (hb hby at_32) rfl) ?_
  show own_Go p.tables e below _ (T7.setTop (mkF m 33 #[.val (.int p1), .val (.int p2), .val (.int p3), .val (.int p4), .val w5, .val w6, .val w7, .unset, .unset, .unset, .unset, .unset, .unset, .unset, .unset, .unset, .unset] [(.int p4), (.int (24 : Int32)), (.int p1)]))
  refine own_go (fun _ => XS.iconst X7.here hx rfl (hb hby at_33)) ?_
  show own_Go p.tables e below _ (T7.setTop (mkF m 34 #[.val (.int p1), .val (.int p2), .val (.int p3), .val (.int p4), .val w5, .val w6, .val w7, .unset, .unset, .unset, .unset, .unset, .unset, .unset, .unset, .unset, .unset] [(.int (3 : Int32)), (.int p4), (.int (24 : Int32)), (.int p1)]))
  obtain ⟨v8, T8, L8, X8, hQ8, st8⟩ := own_tidyS X7 (Jvm.LawKit.callS X7 hx (y := (⟨"com/example/attesta/attesta/contract/MalattiaWithDataFinePinLaw", "mk", "(IIII)Ljava/lang/String;"⟩ : MethodName)) hown (mvT hZ (hw _ (List.mem_of_getElem? (i := 0) rfl))) (mvT hZ (hw _ (List.mem_of_getElem? (i := 1) rfl))) (mvT hZ (hw _ (List.mem_of_getElem? (i := 2) rfl))) (mvT hZ (hw _ (List.mem_of_getElem? (i := 3) rfl))) (by decide) (backOf (W := 0) (rm1 l Z a0 hw [] p1 (24 : Int32) p4 (3 : Int32) csz T7.heap n0 (Nat.le_trans (Nat.le_trans (Nat.le_trans Z0 Kc5.1) Kc6.1) Kc7.1) S_CS (by first | assumption | rfl) (((O0.keep Kc5 all0).keep Kc6 all0).keep Kc7 all0)) hZ (hw _ (List.mem_of_getElem? (i := 3) rfl)) (hw _ (List.mem_of_getElem? (i := 2) rfl)) (by decide) (by decide)) (g := (mkF m 34 #[.val (.int p1), .val (.int p2), .val (.int p3), .val (.int p4), .val w5, .val w6, .val w7, .unset, .unset, .unset, .unset, .unset, .unset, .unset, .unset, .unset, .unset] [(.int (3 : Int32)), (.int p4), (.int (24 : Int32)), (.int p1)])) rfl (by rw [hml]; rfl) (argsL := [(.int p1), (.int (24 : Int32)), (.int p4), (.int (3 : Int32))]) (rest := []) (lenOf pd_0 rfl) rfl (by show 2 * 0 + _ ≤ _; exact Nat.le_of_eq rfl) (hb hby at_34) (fun _ _ => ⟨rfl, rfl, (by decide : 9 + 3 ≤ _), (by decide : 18 + 6 ≤ _)⟩)) (c' := 12) (n' := 24) rfl rfl
  obtain ⟨⟨w8, rfl, r8⟩, N8q, Kc8⟩ := hQ8
  have N8 := Fr.app N7 N8q
  refine own_go st8 ?_
  have K8 : Keep h0 T8.heap [] := K7.trans Kc8 all0
  show own_Go p.tables e below _ (T8.setTop (mkF m 37 #[.val (.int p1), .val (.int p2), .val (.int p3), .val (.int p4), .val w5, .val w6, .val w7, .unset, .unset, .unset, .unset, .unset, .unset, .unset, .unset, .unset, .unset] [w8]))
  refine own_go (fun _ => XS.astore X8.here hx rfl (hb hby at_37) rfl r8 (l' := #[.val (.int p1), .val (.int p2), .val (.int p3), .val (.int p4), .val w5, .val w6, .val w7, .val w8, .unset, .unset, .unset, .unset, .unset, .unset, .unset, .unset, .unset]) (by rcases ref_cases r8 with rfl | ⟨z_w8, rfl⟩; all_goals rcases ref_cases r7 with rfl | ⟨z_w7, rfl⟩; all_goals rfl)) ?_
  show own_Go p.tables e below _ (T8.setTop (mkF m 39 #[.val (.int p1), .val (.int p2), .val (.int p3), .val (.int p4), .val w5, .val w6, .val w7, .val w8, .unset, .unset, .unset, .unset, .unset, .unset, .unset, .unset, .unset] []))
  refine own_go (fun _ => XS.iloadN X8.here hx rfl (hb hby at_39) rfl) ?_
  show own_Go p.tables e below _ (T8.setTop (mkF m 40 #[.val (.int p1), .val (.int p2), .val (.int p3), .val (.int p4), .val w5, .val w6, .val w7, .val w8, .unset, .unset, .unset, .unset, .unset, .unset, .unset, .unset, .unset] [(.int p2)]))
  refine own_go (fun _ => XS.iconst X8.here hx rfl (hb hby at_40)) ?_
  show own_Go p.tables e below _ (T8.setTop (mkF m 41 #[.val (.int p1), .val (.int p2), .val (.int p3), .val (.int p4), .val w5, .val w6, .val w7, .val w8, .unset, .unset, .unset, .unset, .unset, .unset, .unset, .unset, .unset] [(.int (0 : Int32)), (.int p2)]))
  refine own_go (fun _ => XS.iloadN X8.here hx rfl (hb hby at_41) rfl) ?_
  show own_Go p.tables e below _ (T8.setTop (mkF m 42 #[.val (.int p1), .val (.int p2), .val (.int p3), .val (.int p4), .val w5, .val w6, .val w7, .val w8, .unset, .unset, .unset, .unset, .unset, .unset, .unset, .unset, .unset] [(.int p4), (.int (0 : Int32)), (.int p2)]))
  refine own_go (fun _ => XS.iconst X8.here hx rfl (hb hby at_42)) ?_
  show own_Go p.tables e below _ (T8.setTop (mkF m 43 #[.val (.int p1), .val (.int p2), .val (.int p3), .val (.int p4), .val w5, .val w6, .val w7, .val w8, .unset, .unset, .unset, .unset, .unset, .unset, .unset, .unset, .unset] [(.int (4 : Int32)), (.int p4), (.int (0 : Int32)), (.int p2)]))
  obtain ⟨v9, T9, L9, X9, hQ9, st9⟩ := own_tidyS X8 (Jvm.LawKit.callS X8 hx (y := (⟨"com/example/attesta/attesta/contract/MalattiaWithDataFinePinLaw", "mk", "(IIII)Ljava/lang/String;"⟩ : MethodName)) hown (mvT hZ (hw _ (List.mem_of_getElem? (i := 0) rfl))) (mvT hZ (hw _ (List.mem_of_getElem? (i := 1) rfl))) (mvT hZ (hw _ (List.mem_of_getElem? (i := 2) rfl))) (mvT hZ (hw _ (List.mem_of_getElem? (i := 3) rfl))) (by decide) (backOf (W := 0) (rm1 l Z a0 hw [] p2 (0 : Int32) p4 (4 : Int32) csz T8.heap n0 (Nat.le_trans (Nat.le_trans (Nat.le_trans (Nat.le_trans Z0 Kc5.1) Kc6.1) Kc7.1) Kc8.1) S_CS (by first | assumption | rfl) ((((O0.keep Kc5 all0).keep Kc6 all0).keep Kc7 all0).keep Kc8 all0)) hZ (hw _ (List.mem_of_getElem? (i := 3) rfl)) (hw _ (List.mem_of_getElem? (i := 2) rfl)) (by decide) (by decide)) (g := (mkF m 43 #[.val (.int p1), .val (.int p2), .val (.int p3), .val (.int p4), .val w5, .val w6, .val w7, .val w8, .unset, .unset, .unset, .unset, .unset, .unset, .unset, .unset, .unset] [(.int (4 : Int32)), (.int p4), (.int (0 : Int32)), (.int p2)])) rfl (by rw [hml]; rfl) (argsL := [(.int p2), (.int (0 : Int32)), (.int p4), (.int (4 : Int32))]) (rest := []) (lenOf pd_0 rfl) rfl (by show 2 * 0 + _ ≤ _; exact Nat.le_of_eq rfl) (hb hby at_43) (fun _ _ => ⟨rfl, rfl, (by decide : 12 + 3 ≤ _), (by decide : 24 + 6 ≤ _)⟩)) (c' := 15) (n' := 30) rfl rfl
  obtain ⟨⟨w9, rfl, r9⟩, N9q, Kc9⟩ := hQ9
  have N9 := Fr.app N8 N9q
  refine own_go st9 ?_
  have K9 : Keep h0 T9.heap [] := K8.trans Kc9 all0
  show own_Go p.tables e below _ (T9.setTop (mkF m 46 #[.val (.int p1), .val (.int p2), .val (.int p3), .val (.int p4), .val w5, .val w6, .val w7, .val w8, .unset, .unset, .unset, .unset, .unset, .unset, .unset, .unset, .unset] [w9]))
  refine own_go (fun _ => XS.astore X9.here hx rfl (hb hby at_46) rfl r9 (l' := #[.val (.int p1), .val (.int p2), .val (.int p3), .val (.int p4), .val w5, .val w6, .val w7, .val w8, .val w9, .unset, .unset, .unset, .unset, .unset, .unset, .unset, .unset]) (by rcases ref_cases r9 with rfl | ⟨z_w9, rfl⟩; all_goals rcases ref_cases r8 with rfl | ⟨z_w8, rfl⟩; all_goals rfl)) ?_
  show own_Go p.tables e below _ (T9.setTop (mkF m 48 #[.val (.int p1), .val (.int p2), .val (.int p3), .val (.int p4), .val w5, .val w6, .val w7, .val w8, .val w9, .unset, .unset, .unset, .unset, .unset, .unset, .unset, .unset] []))
  refine own_go (fun _ => XS.iloadN X9.here hx rfl (hb hby at_48) rfl) ?_
  show own_Go p.tables e below _ (T9.setTop (mkF m 49 #[.val (.int p1), .val (.int p2), .val (.int p3), .val (.int p4), .val w5, .val w6, .val w7, .val w8, .val w9, .unset, .unset, .unset, .unset, .unset, .unset, .unset, .unset] [(.int p2)]))
  refine own_go (fun _ => XS.bipush X9.here hx rfl (hb hby at_49)) ?_
  show own_Go p.tables e below _ (T9.setTop (mkF m 51 #[.val (.int p1), .val (.int p2), .val (.int p3), .val (.int p4), .val w5, .val w6, .val w7, .val w8, .val w9, .unset, .unset, .unset, .unset, .unset, .unset, .unset, .unset] [(.int (8 : Int32)), (.int p2)]))
  refine own_go (fun _ => XS.iloadN X9.here hx rfl (hb hby at_51) rfl) ?_
  show own_Go p.tables e below _ (T9.setTop (mkF m 52 #[.val (.int p1), .val (.int p2), .val (.int p3), .val (.int p4), .val w5, .val w6, .val w7, .val w8, .val w9, .unset, .unset, .unset, .unset, .unset, .unset, .unset, .unset] [(.int p4), (.int (8 : Int32)), (.int p2)]))
  refine own_go (fun _ => XS.iconst X9.here hx rfl (hb hby at_52)) ?_
  show own_Go p.tables e below _ (T9.setTop (mkF m 53 #[.val (.int p1), .val (.int p2), .val (.int p3), .val (.int p4), .val w5, .val w6, .val w7, .val w8, .val w9, .unset, .unset, .unset, .unset, .unset, .unset, .unset, .unset] [(.int (5 : Int32)), (.int p4), (.int (8 : Int32)), (.int p2)]))
  obtain ⟨v10, T10, L10, X10, hQ10, st10⟩ := own_tidyS X9 (Jvm.LawKit.callS X9 hx (y := (⟨"com/example/attesta/attesta/contract/MalattiaWithDataFinePinLaw", "mk", "(IIII)Ljava/lang/String;"⟩ : MethodName)) hown (mvT hZ (hw _ (List.mem_of_getElem? (i := 0) rfl))) (mvT hZ (hw _ (List.mem_of_getElem? (i := 1) rfl))) (mvT hZ (hw _ (List.mem_of_getElem? (i := 2) rfl))) (mvT hZ (hw _ (List.mem_of_getElem? (i := 3) rfl))) (by decide) (backOf (W := 0) (rm1 l Z a0 hw [] p2 (8 : Int32) p4 (5 : Int32) csz T9.heap n0 (Nat.le_trans (Nat.le_trans (Nat.le_trans (Nat.le_trans (Nat.le_trans Z0 Kc5.1) Kc6.1) Kc7.1) Kc8.1) Kc9.1) S_CS (by first | assumption | rfl) (((((O0.keep Kc5 all0).keep Kc6 all0).keep Kc7 all0).keep Kc8 all0).keep Kc9 all0)) hZ (hw _ (List.mem_of_getElem? (i := 3) rfl)) (hw _ (List.mem_of_getElem? (i := 2) rfl)) (by decide) (by decide)) (g := (mkF m 53 #[.val (.int p1), .val (.int p2), .val (.int p3), .val (.int p4), .val w5, .val w6, .val w7, .val w8, .val w9, .unset, .unset, .unset, .unset, .unset, .unset, .unset, .unset] [(.int (5 : Int32)), (.int p4), (.int (8 : Int32)), (.int p2)])) rfl (by rw [hml]; rfl) (argsL := [(.int p2), (.int (8 : Int32)), (.int p4), (.int (5 : Int32))]) (rest := []) (lenOf pd_0 rfl) rfl (by show 2 * 0 + _ ≤ _; exact Nat.le_of_eq rfl) (hb hby at_53) (fun _ _ => ⟨rfl, rfl, (by decide : 15 + 3 ≤ _), (by decide : 30 + 6 ≤ _)⟩)) (c' := 18) (n' := 36) rfl rfl
  obtain ⟨⟨w10, rfl, r10⟩, N10q, Kc10⟩ := hQ10
  have N10 := Fr.app N9 N10q
  refine own_go st10 ?_
  have K10 : Keep h0 T10.heap [] := K9.trans Kc10 all0
  show own_Go p.tables e below _ (T10.setTop (mkF m 56 #[.val (.int p1), .val (.int p2), .val (.int p3), .val (.int p4), .val w5, .val w6, .val w7, .val w8, .val w9, .unset, .unset, .unset, .unset, .unset, .unset, .unset, .unset] [w10]))
  refine own_go (fun _ => XS.astore X10.here hx rfl (hb hby at_56) rfl r10 (l' := #[.val (.int p1), .val (.int p2), .val (.int p3), .val (.int p4), .val w5, .val w6, .val w7, .val w8, .val w9, .val w10, .unset, .unset, .unset, .unset, .unset, .unset, .unset]) (by rcases ref_cases r10 with rfl | ⟨z_w10, rfl⟩; all_goals rcases ref_cases r9 with rfl | ⟨z_w9, rfl⟩; all_goals rfl)) ?_
  show own_Go p.tables e below _ (T10.setTop (mkF m 58 #[.val (.int p1), .val (.int p2), .val (.int p3), .val (.int p4), .val w5, .val w6, .val w7, .val w8, .val w9, .val w10, .unset, .unset, .unset, .unset, .unset, .unset, .unset] []))
  refine own_go (fun _ => XS.iloadN X10.here hx rfl (hb hby at_58) rfl) ?_
  show own_Go p.tables e below _ (T10.setTop (mkF m 59 #[.val (.int p1), .val (.int p2), .val (.int p3), .val (.int p4), .val w5, .val w6, .val w7, .val w8, .val w9, .val w10, .unset, .unset, .unset, .unset, .unset, .unset, .unset] [(.int p2)]))
  refine own_go (fun _ => XS.bipush X10.here hx rfl (hb hby at_59)) ?_
  show own_Go p.tables e below _ (T10.setTop (mkF m 61 #[.val (.int p1), .val (.int p2), .val (.int p3), .val (.int p4), .val w5, .val w6, .val w7, .val w8, .val w9, .val w10, .unset, .unset, .unset, .unset, .unset, .unset, .unset] [(.int (16 : Int32)), (.int p2)]))
  refine own_go (fun _ => XS.iloadN X10.here hx rfl (hb hby at_61) rfl) ?_
  show own_Go p.tables e below _ (T10.setTop (mkF m 62 #[.val (.int p1), .val (.int p2), .val (.int p3), .val (.int p4), .val w5, .val w6, .val w7, .val w8, .val w9, .val w10, .unset, .unset, .unset, .unset, .unset, .unset, .unset] [(.int p4), (.int (16 : Int32)), (.int p2)]))
  refine own_go (fun _ => XS.bipush X10.here hx rfl (hb hby at_62)) ?_
  show own_Go p.tables e below _ (T10.setTop (mkF m 64 #[.val (.int p1), .val (.int p2), .val (.int p3), .val (.int p4), .val w5, .val w6, .val w7, .val w8, .val w9, .val w10, .unset, .unset, .unset, .unset, .unset, .unset, .unset] [(.int (6 : Int32)), (.int p4), (.int (16 : Int32)), (.int p2)]))
  obtain ⟨v11, T11, L11, X11, hQ11, st11⟩ := own_tidyS X10 (Jvm.LawKit.callS X10 hx (y := (⟨"com/example/attesta/attesta/contract/MalattiaWithDataFinePinLaw", "mk", "(IIII)Ljava/lang/String;"⟩ : MethodName)) hown (mvT hZ (hw _ (List.mem_of_getElem? (i := 0) rfl))) (mvT hZ (hw _ (List.mem_of_getElem? (i := 1) rfl))) (mvT hZ (hw _ (List.mem_of_getElem? (i := 2) rfl))) (mvT hZ (hw _ (List.mem_of_getElem? (i := 3) rfl))) (by decide) (backOf (W := 0) (rm1 l Z a0 hw [] p2 (16 : Int32) p4 (6 : Int32) csz T10.heap n0 (Nat.le_trans (Nat.le_trans (Nat.le_trans (Nat.le_trans (Nat.le_trans (Nat.le_trans Z0 Kc5.1) Kc6.1) Kc7.1) Kc8.1) Kc9.1) Kc10.1) S_CS (by first | assumption | rfl) ((((((O0.keep Kc5 all0).keep Kc6 all0).keep Kc7 all0).keep Kc8 all0).keep Kc9 all0).keep Kc10 all0)) hZ (hw _ (List.mem_of_getElem? (i := 3) rfl)) (hw _ (List.mem_of_getElem? (i := 2) rfl)) (by decide) (by decide)) (g := (mkF m 64 #[.val (.int p1), .val (.int p2), .val (.int p3), .val (.int p4), .val w5, .val w6, .val w7, .val w8, .val w9, .val w10, .unset, .unset, .unset, .unset, .unset, .unset, .unset] [(.int (6 : Int32)), (.int p4), (.int (16 : Int32)), (.int p2)])) rfl (by rw [hml]; rfl) (argsL := [(.int p2), (.int (16 : Int32)), (.int p4), (.int (6 : Int32))]) (rest := []) (lenOf pd_0 rfl) rfl (by show 2 * 0 + _ ≤ _; exact Nat.le_of_eq rfl) (hb hby at_64) (fun _ _ => ⟨rfl, rfl, (by decide : 18 + 3 ≤ _), (by decide : 36 + 6 ≤ _)⟩)) (c' := 21) (n' := 42) rfl rfl
  obtain ⟨⟨w11, rfl, r11⟩, N11q, Kc11⟩ := hQ11
  have N11 := Fr.app N10 N11q
  refine own_go st11 ?_
  have K11 : Keep h0 T11.heap [] := K10.trans Kc11 all0
  show own_Go p.tables e below _ (T11.setTop (mkF m 67 #[.val (.int p1), .val (.int p2), .val (.int p3), .val (.int p4), .val w5, .val w6, .val w7, .val w8, .val w9, .val w10, .unset, .unset, .unset, .unset, .unset, .unset, .unset] [w11]))
  refine own_go (fun _ => XS.astore X11.here hx rfl (hb hby at_67) rfl r11 (l' := #[.val (.int p1), .val (.int p2), .val (.int p3), .val (.int p4), .val w5, .val w6, .val w7, .val w8, .val w9, .val w10, .val w11, .unset, .unset, .unset, .unset, .unset, .unset]) (by rcases ref_cases r11 with rfl | ⟨z_w11, rfl⟩; all_goals rcases ref_cases r10 with rfl | ⟨z_w10, rfl⟩; all_goals rfl)) ?_
  show own_Go p.tables e below _ (T11.setTop (mkF m 69 #[.val (.int p1), .val (.int p2), .val (.int p3), .val (.int p4), .val w5, .val w6, .val w7, .val w8, .val w9, .val w10, .val w11, .unset, .unset, .unset, .unset, .unset, .unset] []))
  refine own_go (fun _ => XS.iloadN X11.here hx rfl (hb hby at_69) rfl) ?_
  show own_Go p.tables e below _ (T11.setTop (mkF m 70 #[.val (.int p1), .val (.int p2), .val (.int p3), .val (.int p4), .val w5, .val w6, .val w7, .val w8, .val w9, .val w10, .val w11, .unset, .unset, .unset, .unset, .unset, .unset] [(.int p2)]))
  refine own_go (fun _ => XS.bipush X11.here hx rfl (hb hby at_70)) ?_
  show own_Go p.tables e below _ (T11.setTop (mkF m 72 #[.val (.int p1), .val (.int p2), .val (.int p3), .val (.int p4), .val w5, .val w6, .val w7, .val w8, .val w9, .val w10, .val w11, .unset, .unset, .unset, .unset, .unset, .unset] [(.int (24 : Int32)), (.int p2)]))
  refine own_go (fun _ => XS.iloadN X11.here hx rfl (hb hby at_72) rfl) ?_
  show own_Go p.tables e below _ (T11.setTop (mkF m 73 #[.val (.int p1), .val (.int p2), .val (.int p3), .val (.int p4), .val w5, .val w6, .val w7, .val w8, .val w9, .val w10, .val w11, .unset, .unset, .unset, .unset, .unset, .unset] [(.int p4), (.int (24 : Int32)), (.int p2)]))
  refine own_go (fun _ => XS.bipush X11.here hx rfl (hb hby at_73)) ?_
  show own_Go p.tables e below _ (T11.setTop (mkF m 75 #[.val (.int p1), .val (.int p2), .val (.int p3), .val (.int p4), .val w5, .val w6, .val w7, .val w8, .val w9, .val w10, .val w11, .unset, .unset, .unset, .unset, .unset, .unset] [(.int (7 : Int32)), (.int p4), (.int (24 : Int32)), (.int p2)]))
  obtain ⟨v12, T12, L12, X12, hQ12, st12⟩ := own_tidyS X11 (Jvm.LawKit.callS X11 hx (y := (⟨"com/example/attesta/attesta/contract/MalattiaWithDataFinePinLaw", "mk", "(IIII)Ljava/lang/String;"⟩ : MethodName)) hown (mvT hZ (hw _ (List.mem_of_getElem? (i := 0) rfl))) (mvT hZ (hw _ (List.mem_of_getElem? (i := 1) rfl))) (mvT hZ (hw _ (List.mem_of_getElem? (i := 2) rfl))) (mvT hZ (hw _ (List.mem_of_getElem? (i := 3) rfl))) (by decide) (backOf (W := 0) (rm1 l Z a0 hw [] p2 (24 : Int32) p4 (7 : Int32) csz T11.heap n0 (Nat.le_trans (Nat.le_trans (Nat.le_trans (Nat.le_trans (Nat.le_trans (Nat.le_trans (Nat.le_trans Z0 Kc5.1) Kc6.1) Kc7.1) Kc8.1) Kc9.1) Kc10.1) Kc11.1) S_CS (by first | assumption | rfl) (((((((O0.keep Kc5 all0).keep Kc6 all0).keep Kc7 all0).keep Kc8 all0).keep Kc9 all0).keep Kc10 all0).keep Kc11 all0)) hZ (hw _ (List.mem_of_getElem? (i := 3) rfl)) (hw _ (List.mem_of_getElem? (i := 2) rfl)) (by decide) (by decide)) (g := (mkF m 75 #[.val (.int p1), .val (.int p2), .val (.int p3), .val (.int p4), .val w5, .val w6, .val w7, .val w8, .val w9, .val w10, .val w11, .unset, .unset, .unset, .unset, .unset, .unset] [(.int (7 : Int32)), (.int p4), (.int (24 : Int32)), (.int p2)])) rfl (by rw [hml]; rfl) (argsL := [(.int p2), (.int (24 : Int32)), (.int p4), (.int (7 : Int32))]) (rest := []) (lenOf pd_0 rfl) rfl (by show 2 * 0 + _ ≤ _; exact Nat.le_of_eq rfl) (hb hby at_75) (fun _ _ => ⟨rfl, rfl, (by decide : 21 + 3 ≤ _), (by decide : 42 + 6 ≤ _)⟩)) (c' := 24) (n' := 48) rfl rfl
  obtain ⟨⟨w12, rfl, r12⟩, N12q, Kc12⟩ := hQ12
  have N12 := Fr.app N11 N12q
  refine own_go st12 ?_
  have K12 : Keep h0 T12.heap [] := K11.trans Kc12 all0
  show own_Go p.tables e below _ (T12.setTop (mkF m 78 #[.val (.int p1), .val (.int p2), .val (.int p3), .val (.int p4), .val w5, .val w6, .val w7, .val w8, .val w9, .val w10, .val w11, .unset, .unset, .unset, .unset, .unset, .unset] [w12]))
  refine own_go (fun _ => XS.astore X12.here hx rfl (hb hby at_78) rfl r12 (l' := #[.val (.int p1), .val (.int p2), .val (.int p3), .val (.int p4), .val w5, .val w6, .val w7, .val w8, .val w9, .val w10, .val w11, .val w12, .unset, .unset, .unset, .unset, .unset]) (by rcases ref_cases r12 with rfl | ⟨z_w12, rfl⟩; all_goals rcases ref_cases r11 with rfl | ⟨z_w11, rfl⟩; all_goals rfl)) ?_
  show own_Go p.tables e below _ (T12.setTop (mkF m 80 #[.val (.int p1), .val (.int p2), .val (.int p3), .val (.int p4), .val w5, .val w6, .val w7, .val w8, .val w9, .val w10, .val w11, .val w12, .unset, .unset, .unset, .unset, .unset] []))
  refine own_go (fun _ => XS.iloadN X12.here hx rfl (hb hby at_80) rfl) ?_
  show own_Go p.tables e below _ (T12.setTop (mkF m 81 #[.val (.int p1), .val (.int p2), .val (.int p3), .val (.int p4), .val w5, .val w6, .val w7, .val w8, .val w9, .val w10, .val w11, .val w12, .unset, .unset, .unset, .unset, .unset] [(.int p3)]))
  refine own_go (fun _ => XS.iconst X12.here hx rfl (hb hby at_81)) ?_
  show own_Go p.tables e below _ (T12.setTop (mkF m 82 #[.val (.int p1), .val (.int p2), .val (.int p3), .val (.int p4), .val w5, .val w6, .val w7, .val w8, .val w9, .val w10, .val w11, .val w12, .unset, .unset, .unset, .unset, .unset] [(.int (0 : Int32)), (.int p3)]))
  refine own_go (fun _ => XS.iloadN X12.here hx rfl (hb hby at_82) rfl) ?_
  show own_Go p.tables e below _ (T12.setTop (mkF m 83 #[.val (.int p1), .val (.int p2), .val (.int p3), .val (.int p4), .val w5, .val w6, .val w7, .val w8, .val w9, .val w10, .val w11, .val w12, .unset, .unset, .unset, .unset, .unset] [(.int p4), (.int (0 : Int32)), (.int p3)]))
  refine own_go (fun _ => XS.bipush X12.here hx rfl (hb hby at_83)) ?_
  show own_Go p.tables e below _ (T12.setTop (mkF m 85 #[.val (.int p1), .val (.int p2), .val (.int p3), .val (.int p4), .val w5, .val w6, .val w7, .val w8, .val w9, .val w10, .val w11, .val w12, .unset, .unset, .unset, .unset, .unset] [(.int (8 : Int32)), (.int p4), (.int (0 : Int32)), (.int p3)]))
  obtain ⟨v13, T13, L13, X13, hQ13, st13⟩ := own_tidyS X12 (Jvm.LawKit.callS X12 hx (y := (⟨"com/example/attesta/attesta/contract/MalattiaWithDataFinePinLaw", "mk", "(IIII)Ljava/lang/String;"⟩ : MethodName)) hown (mvT hZ (hw _ (List.mem_of_getElem? (i := 0) rfl))) (mvT hZ (hw _ (List.mem_of_getElem? (i := 1) rfl))) (mvT hZ (hw _ (List.mem_of_getElem? (i := 2) rfl))) (mvT hZ (hw _ (List.mem_of_getElem? (i := 3) rfl))) (by decide) (backOf (W := 0) (rm1 l Z a0 hw [] p3 (0 : Int32) p4 (8 : Int32) csz T12.heap n0 (Nat.le_trans (Nat.le_trans (Nat.le_trans (Nat.le_trans (Nat.le_trans (Nat.le_trans (Nat.le_trans (Nat.le_trans Z0 Kc5.1) Kc6.1) Kc7.1) Kc8.1) Kc9.1) Kc10.1) Kc11.1) Kc12.1) S_CS (by first | assumption | rfl) ((((((((O0.keep Kc5 all0).keep Kc6 all0).keep Kc7 all0).keep Kc8 all0).keep Kc9 all0).keep Kc10 all0).keep Kc11 all0).keep Kc12 all0)) hZ (hw _ (List.mem_of_getElem? (i := 3) rfl)) (hw _ (List.mem_of_getElem? (i := 2) rfl)) (by decide) (by decide)) (g := (mkF m 85 #[.val (.int p1), .val (.int p2), .val (.int p3), .val (.int p4), .val w5, .val w6, .val w7, .val w8, .val w9, .val w10, .val w11, .val w12, .unset, .unset, .unset, .unset, .unset] [(.int (8 : Int32)), (.int p4), (.int (0 : Int32)), (.int p3)])) rfl (by rw [hml]; rfl) (argsL := [(.int p3), (.int (0 : Int32)), (.int p4), (.int (8 : Int32))]) (rest := []) (lenOf pd_0 rfl) rfl (by show 2 * 0 + _ ≤ _; exact Nat.le_of_eq rfl) (hb hby at_85) (fun _ _ => ⟨rfl, rfl, (by decide : 24 + 3 ≤ _), (by decide : 48 + 6 ≤ _)⟩)) (c' := 27) (n' := 54) rfl rfl
  obtain ⟨⟨w13, rfl, r13⟩, N13q, Kc13⟩ := hQ13
  have N13 := Fr.app N12 N13q
  refine own_go st13 ?_
  have K13 : Keep h0 T13.heap [] := K12.trans Kc13 all0
  show own_Go p.tables e below _ (T13.setTop (mkF m 88 #[.val (.int p1), .val (.int p2), .val (.int p3), .val (.int p4), .val w5, .val w6, .val w7, .val w8, .val w9, .val w10, .val w11, .val w12, .unset, .unset, .unset, .unset, .unset] [w13]))
  refine own_go (fun _ => XS.astore X13.here hx rfl (hb hby at_88) rfl r13 (l' := #[.val (.int p1), .val (.int p2), .val (.int p3), .val (.int p4), .val w5, .val w6, .val w7, .val w8, .val w9, .val w10, .val w11, .val w12, .val w13, .unset, .unset, .unset, .unset]) (by rcases ref_cases r13 with rfl | ⟨z_w13, rfl⟩; all_goals rcases ref_cases r12 with rfl | ⟨z_w12, rfl⟩; all_goals rfl)) ?_
  show own_Go p.tables e below _ (T13.setTop (mkF m 90 #[.val (.int p1), .val (.int p2), .val (.int p3), .val (.int p4), .val w5, .val w6, .val w7, .val w8, .val w9, .val w10, .val w11, .val w12, .val w13, .unset, .unset, .unset, .unset] []))
  refine own_go (fun _ => XS.iloadN X13.here hx rfl (hb hby at_90) rfl) ?_
  show own_Go p.tables e below _ (T13.setTop (mkF m 91 #[.val (.int p1), .val (.int p2), .val (.int p3), .val (.int p4), .val w5, .val w6, .val w7, .val w8, .val w9, .val w10, .val w11, .val w12, .val w13, .unset, .unset, .unset, .unset] [(.int p3)]))
  refine own_go (fun _ => XS.bipush X13.here hx rfl (hb hby at_91)) ?_
  show own_Go p.tables e below _ (T13.setTop (mkF m 93 #[.val (.int p1), .val (.int p2), .val (.int p3), .val (.int p4), .val w5, .val w6, .val w7, .val w8, .val w9, .val w10, .val w11, .val w12, .val w13, .unset, .unset, .unset, .unset] [(.int (8 : Int32)), (.int p3)]))
  refine own_go (fun _ => XS.iloadN X13.here hx rfl (hb hby at_93) rfl) ?_
  show own_Go p.tables e below _ (T13.setTop (mkF m 94 #[.val (.int p1), .val (.int p2), .val (.int p3), .val (.int p4), .val w5, .val w6, .val w7, .val w8, .val w9, .val w10, .val w11, .val w12, .val w13, .unset, .unset, .unset, .unset] [(.int p4), (.int (8 : Int32)), (.int p3)]))
  refine own_go (fun _ => XS.bipush X13.here hx rfl (hb hby at_94)) ?_
  show own_Go p.tables e below _ (T13.setTop (mkF m 96 #[.val (.int p1), .val (.int p2), .val (.int p3), .val (.int p4), .val w5, .val w6, .val w7, .val w8, .val w9, .val w10, .val w11, .val w12, .val w13, .unset, .unset, .unset, .unset] [(.int (9 : Int32)), (.int p4), (.int (8 : Int32)), (.int p3)]))
  obtain ⟨v14, T14, L14, X14, hQ14, st14⟩ := own_tidyS X13 (Jvm.LawKit.callS X13 hx (y := (⟨"com/example/attesta/attesta/contract/MalattiaWithDataFinePinLaw", "mk", "(IIII)Ljava/lang/String;"⟩ : MethodName)) hown (mvT hZ (hw _ (List.mem_of_getElem? (i := 0) rfl))) (mvT hZ (hw _ (List.mem_of_getElem? (i := 1) rfl))) (mvT hZ (hw _ (List.mem_of_getElem? (i := 2) rfl))) (mvT hZ (hw _ (List.mem_of_getElem? (i := 3) rfl))) (by decide) (backOf (W := 0) (rm1 l Z a0 hw [] p3 (8 : Int32) p4 (9 : Int32) csz T13.heap n0 (Nat.le_trans (Nat.le_trans (Nat.le_trans (Nat.le_trans (Nat.le_trans (Nat.le_trans (Nat.le_trans (Nat.le_trans (Nat.le_trans Z0 Kc5.1) Kc6.1) Kc7.1) Kc8.1) Kc9.1) Kc10.1) Kc11.1) Kc12.1) Kc13.1) S_CS (by first | assumption | rfl) (((((((((O0.keep Kc5 all0).keep Kc6 all0).keep Kc7 all0).keep Kc8 all0).keep Kc9 all0).keep Kc10 all0).keep Kc11 all0).keep Kc12 all0).keep Kc13 all0)) hZ (hw _ (List.mem_of_getElem? (i := 3) rfl)) (hw _ (List.mem_of_getElem? (i := 2) rfl)) (by decide) (by decide)) (g := (mkF m 96 #[.val (.int p1), .val (.int p2), .val (.int p3), .val (.int p4), .val w5, .val w6, .val w7, .val w8, .val w9, .val w10, .val w11, .val w12, .val w13, .unset, .unset, .unset, .unset] [(.int (9 : Int32)), (.int p4), (.int (8 : Int32)), (.int p3)])) rfl (by rw [hml]; rfl) (argsL := [(.int p3), (.int (8 : Int32)), (.int p4), (.int (9 : Int32))]) (rest := []) (lenOf pd_0 rfl) rfl (by show 2 * 0 + _ ≤ _; exact Nat.le_of_eq rfl) (hb hby at_96) (fun _ _ => ⟨rfl, rfl, (by decide : 27 + 3 ≤ _), (by decide : 54 + 6 ≤ _)⟩)) (c' := 30) (n' := 60) rfl rfl
  obtain ⟨⟨w14, rfl, r14⟩, N14q, Kc14⟩ := hQ14
  have N14 := Fr.app N13 N14q
  refine own_go st14 ?_
  have K14 : Keep h0 T14.heap [] := K13.trans Kc14 all0
  show own_Go p.tables e below _ (T14.setTop (mkF m 99 #[.val (.int p1), .val (.int p2), .val (.int p3), .val (.int p4), .val w5, .val w6, .val w7, .val w8, .val w9, .val w10, .val w11, .val w12, .val w13, .unset, .unset, .unset, .unset] [w14]))
  refine own_go (fun _ => XS.astore X14.here hx rfl (hb hby at_99) rfl r14 (l' := #[.val (.int p1), .val (.int p2), .val (.int p3), .val (.int p4), .val w5, .val w6, .val w7, .val w8, .val w9, .val w10, .val w11, .val w12, .val w13, .val w14, .unset, .unset, .unset]) (by rcases ref_cases r14 with rfl | ⟨z_w14, rfl⟩; all_goals rcases ref_cases r13 with rfl | ⟨z_w13, rfl⟩; all_goals rfl)) ?_
  show own_Go p.tables e below _ (T14.setTop (mkF m 101 #[.val (.int p1), .val (.int p2), .val (.int p3), .val (.int p4), .val w5, .val w6, .val w7, .val w8, .val w9, .val w10, .val w11, .val w12, .val w13, .val w14, .unset, .unset, .unset] []))
  refine own_go (fun _ => XS.aconstNull X14.here hx rfl (hb hby at_101)) ?_
  show own_Go p.tables e below _ (T14.setTop (mkF m 102 #[.val (.int p1), .val (.int p2), .val (.int p3), .val (.int p4), .val w5, .val w6, .val w7, .val w8, .val w9, .val w10, .val w11, .val w12, .val w13, .val w14, .unset, .unset, .unset] [.null]))
  refine own_go (fun _ => XS.astore X14.here hx rfl (hb hby at_102) rfl rfl (l' := #[.val (.int p1), .val (.int p2), .val (.int p3), .val (.int p4), .val w5, .val w6, .val w7, .val w8, .val w9, .val w10, .val w11, .val w12, .val w13, .val w14, .val .null, .unset, .unset]) (by rcases ref_cases r14 with rfl | ⟨z_w14, rfl⟩; all_goals rfl)) ?_
  show own_Go p.tables e below _ (T14.setTop (mkF m 104 #[.val (.int p1), .val (.int p2), .val (.int p3), .val (.int p4), .val w5, .val w6, .val w7, .val w8, .val w9, .val w10, .val w11, .val w12, .val w13, .val w14, .val .null, .unset, .unset] []))
  refine own_go (fun _ => XS.iloadN X14.here hx rfl (hb hby at_104) rfl) ?_
  show own_Go p.tables e below _ (T14.setTop (mkF m 105 #[.val (.int p1), .val (.int p2), .val (.int p3), .val (.int p4), .val w5, .val w6, .val w7, .val w8, .val w9, .val w10, .val w11, .val w12, .val w13, .val w14, .val .null, .unset, .unset] [(.int p4)]))
  refine own_go (fun _ => XS.bipush X14.here hx rfl (hb hby at_105)) ?_
  show own_Go p.tables e below _ (T14.setTop (mkF m 107 #[.val (.int p1), .val (.int p2), .val (.int p3), .val (.int p4), .val w5, .val w6, .val w7, .val w8, .val w9, .val w10, .val w11, .val w12, .val w13, .val w14, .val .null, .unset, .unset] [(.int (10 : Int32)), (.int p4)]))
  refine own_go (fun _ => XS.iushr X14.here hx rfl (hb hby at_107) rfl) ?_
  show own_Go p.tables e below _ (T14.setTop (mkF m 108 #[.val (.int p1), .val (.int p2), .val (.int p3), .val (.int p4), .val w5, .val w6, .val w7, .val w8, .val w9, .val w10, .val w11, .val w12, .val w13, .val w14, .val .null, .unset, .unset] [(.int ((p4.toUInt32 >>> ((10 : Int32) &&& 31).toUInt32).toInt32))]))
  refine own_go (fun _ => XS.iconst X14.here hx rfl (hb hby at_108)) ?_
  show own_Go p.tables e below _ (T14.setTop (mkF m 109 #[.val (.int p1), .val (.int p2), .val (.int p3), .val (.int p4), .val w5, .val w6, .val w7, .val w8, .val w9, .val w10, .val w11, .val w12, .val w13, .val w14, .val .null, .unset, .unset] [(.int (1 : Int32)), (.int ((p4.toUInt32 >>> ((10 : Int32) &&& 31).toUInt32).toInt32))]))
  refine own_go (fun _ => XS.iand X14.here hx rfl (hb hby at_109) rfl) ?_
  show own_Go p.tables e below _ (T14.setTop (mkF m 110 #[.val (.int p1), .val (.int p2), .val (.int p3), .val (.int p4), .val w5, .val w6, .val w7, .val w8, .val w9, .val w10, .val w11, .val w12, .val w13, .val w14, .val .null, .unset, .unset] [(.int (((p4.toUInt32 >>> ((10 : Int32) &&& 31).toUInt32).toInt32) &&& (1 : Int32)))]))
  by_cases hc15_110 : (((p4.toUInt32 >>> ((10 : Int32) &&& 31).toUInt32).toInt32) &&& (1 : Int32)) = (0 : Int32)
  · skip
    refine own_go (fun _ => XS.ifNo X14.here hx rfl (hb hby at_110) rfl ((if0 _ _).trans (teq hc15_110).2)) ?_
    show own_Go p.tables e below _ (T14.setTop (mkF m 113 #[.val (.int p1), .val (.int p2), .val (.int p3), .val (.int p4), .val w5, .val w6, .val w7, .val w8, .val w9, .val w10, .val w11, .val w12, .val w13, .val w14, .val .null, .unset, .unset] []))
    refine own_go (fun _ => XS.iloadN X14.here hx rfl (hb hby at_113) rfl) ?_
    show own_Go p.tables e below _ (T14.setTop (mkF m 114 #[.val (.int p1), .val (.int p2), .val (.int p3), .val (.int p4), .val w5, .val w6, .val w7, .val w8, .val w9, .val w10, .val w11, .val w12, .val w13, .val w14, .val .null, .unset, .unset] [(.int p3)]))
    refine own_go (fun _ => XS.bipush X14.here hx rfl (hb hby at_114)) ?_
    show own_Go p.tables e below _ (T14.setTop (mkF m 116 #[.val (.int p1), .val (.int p2), .val (.int p3), .val (.int p4), .val w5, .val w6, .val w7, .val w8, .val w9, .val w10, .val w11, .val w12, .val w13, .val w14, .val .null, .unset, .unset] [(.int (16 : Int32)), (.int p3)]))
    refine own_go (fun _ => XS.iloadN X14.here hx rfl (hb hby at_116) rfl) ?_
    show own_Go p.tables e below _ (T14.setTop (mkF m 117 #[.val (.int p1), .val (.int p2), .val (.int p3), .val (.int p4), .val w5, .val w6, .val w7, .val w8, .val w9, .val w10, .val w11, .val w12, .val w13, .val w14, .val .null, .unset, .unset] [(.int p4), (.int (16 : Int32)), (.int p3)]))
    refine own_go (fun _ => XS.bipush X14.here hx rfl (hb hby at_117)) ?_
    show own_Go p.tables e below _ (T14.setTop (mkF m 119 #[.val (.int p1), .val (.int p2), .val (.int p3), .val (.int p4), .val w5, .val w6, .val w7, .val w8, .val w9, .val w10, .val w11, .val w12, .val w13, .val w14, .val .null, .unset, .unset] [(.int (11 : Int32)), (.int p4), (.int (16 : Int32)), (.int p3)]))
    obtain ⟨v16, T16, L16, X16, hQ16, st16⟩ := own_tidyS X14 (Jvm.LawKit.callS X14 hx (y := (⟨"com/example/attesta/attesta/contract/MalattiaWithDataFinePinLaw", "mk", "(IIII)Ljava/lang/String;"⟩ : MethodName)) hown (mvT hZ (hw _ (List.mem_of_getElem? (i := 0) rfl))) (mvT hZ (hw _ (List.mem_of_getElem? (i := 1) rfl))) (mvT hZ (hw _ (List.mem_of_getElem? (i := 2) rfl))) (mvT hZ (hw _ (List.mem_of_getElem? (i := 3) rfl))) (by decide) (backOf (W := 0) (rm1 l Z a0 hw [] p3 (16 : Int32) p4 (11 : Int32) csz T14.heap n0 (Nat.le_trans (Nat.le_trans (Nat.le_trans (Nat.le_trans (Nat.le_trans (Nat.le_trans (Nat.le_trans (Nat.le_trans (Nat.le_trans (Nat.le_trans Z0 Kc5.1) Kc6.1) Kc7.1) Kc8.1) Kc9.1) Kc10.1) Kc11.1) Kc12.1) Kc13.1) Kc14.1) S_CS (by first | assumption | rfl) ((((((((((O0.keep Kc5 all0).keep Kc6 all0).keep Kc7 all0).keep Kc8 all0).keep Kc9 all0).keep Kc10 all0).keep Kc11 all0).keep Kc12 all0).keep Kc13 all0).keep Kc14 all0)) hZ (hw _ (List.mem_of_getElem? (i := 3) rfl)) (hw _ (List.mem_of_getElem? (i := 2) rfl)) (by decide) (by decide)) (g := (mkF m 119 #[.val (.int p1), .val (.int p2), .val (.int p3), .val (.int p4), .val w5, .val w6, .val w7, .val w8, .val w9, .val w10, .val w11, .val w12, .val w13, .val w14, .val .null, .unset, .unset] [(.int (11 : Int32)), (.int p4), (.int (16 : Int32)), (.int p3)])) rfl (by rw [hml]; rfl) (argsL := [(.int p3), (.int (16 : Int32)), (.int p4), (.int (11 : Int32))]) (rest := []) (lenOf pd_0 rfl) rfl (by show 2 * 0 + _ ≤ _; exact Nat.le_of_eq rfl) (hb hby at_119) (fun _ _ => ⟨rfl, rfl, (by decide : 30 + 3 ≤ _), (by decide : 60 + 6 ≤ _)⟩)) (c' := 33) (n' := 66) rfl rfl
    obtain ⟨⟨w16, rfl, r16⟩, N16q, Kc16⟩ := hQ16
    have N16 := Fr.app N14 N16q
    refine own_go st16 ?_
    have K16 : Keep h0 T16.heap [] := K14.trans Kc16 all0
    show own_Go p.tables e below _ (T16.setTop (mkF m 122 #[.val (.int p1), .val (.int p2), .val (.int p3), .val (.int p4), .val w5, .val w6, .val w7, .val w8, .val w9, .val w10, .val w11, .val w12, .val w13, .val w14, .val .null, .unset, .unset] [w16]))
    refine own_go (fun _ => XS.astore X16.here hx rfl (hb hby at_122) rfl r16 (l' := #[.val (.int p1), .val (.int p2), .val (.int p3), .val (.int p4), .val w5, .val w6, .val w7, .val w8, .val w9, .val w10, .val w11, .val w12, .val w13, .val w14, .val .null, .val w16, .unset]) (by rcases ref_cases r16 with rfl | ⟨z_w16, rfl⟩; all_goals rfl)) ?_
    show own_Go p.tables e below _ (T16.setTop (mkF m 124 #[.val (.int p1), .val (.int p2), .val (.int p3), .val (.int p4), .val w5, .val w6, .val w7, .val w8, .val w9, .val w10, .val w11, .val w12, .val w13, .val w14, .val .null, .val w16, .unset] []))
    refine own_go (fun _ => XS.iloadN X16.here hx rfl (hb hby at_124) rfl) ?_
    show own_Go p.tables e below _ (T16.setTop (mkF m 125 #[.val (.int p1), .val (.int p2), .val (.int p3), .val (.int p4), .val w5, .val w6, .val w7, .val w8, .val w9, .val w10, .val w11, .val w12, .val w13, .val w14, .val .null, .val w16, .unset] [(.int p3)]))
    refine own_go (fun _ => XS.bipush X16.here hx rfl (hb hby at_125)) ?_
    show own_Go p.tables e below _ (T16.setTop (mkF m 127 #[.val (.int p1), .val (.int p2), .val (.int p3), .val (.int p4), .val w5, .val w6, .val w7, .val w8, .val w9, .val w10, .val w11, .val w12, .val w13, .val w14, .val .null, .val w16, .unset] [(.int (24 : Int32)), (.int p3)]))
    refine own_go (fun _ => XS.iloadN X16.here hx rfl (hb hby at_127) rfl) ?_
    show own_Go p.tables e below _ (T16.setTop (mkF m 128 #[.val (.int p1), .val (.int p2), .val (.int p3), .val (.int p4), .val w5, .val w6, .val w7, .val w8, .val w9, .val w10, .val w11, .val w12, .val w13, .val w14, .val .null, .val w16, .unset] [(.int p4), (.int (24 : Int32)), (.int p3)]))
    refine own_go (fun _ => XS.bipush X16.here hx rfl (hb hby at_128)) ?_
    show own_Go p.tables e below _ (T16.setTop (mkF m 130 #[.val (.int p1), .val (.int p2), .val (.int p3), .val (.int p4), .val w5, .val w6, .val w7, .val w8, .val w9, .val w10, .val w11, .val w12, .val w13, .val w14, .val .null, .val w16, .unset] [(.int (12 : Int32)), (.int p4), (.int (24 : Int32)), (.int p3)]))
    obtain ⟨v17, T17, L17, X17, hQ17, st17⟩ := own_tidyS X16 (Jvm.LawKit.callS X16 hx (y := (⟨"com/example/attesta/attesta/contract/MalattiaWithDataFinePinLaw", "mk", "(IIII)Ljava/lang/String;"⟩ : MethodName)) hown (mvT hZ (hw _ (List.mem_of_getElem? (i := 0) rfl))) (mvT hZ (hw _ (List.mem_of_getElem? (i := 1) rfl))) (mvT hZ (hw _ (List.mem_of_getElem? (i := 2) rfl))) (mvT hZ (hw _ (List.mem_of_getElem? (i := 3) rfl))) (by decide) (backOf (W := 0) (rm1 l Z a0 hw [] p3 (24 : Int32) p4 (12 : Int32) csz T16.heap n0 (Nat.le_trans (Nat.le_trans (Nat.le_trans (Nat.le_trans (Nat.le_trans (Nat.le_trans (Nat.le_trans (Nat.le_trans (Nat.le_trans (Nat.le_trans (Nat.le_trans Z0 Kc5.1) Kc6.1) Kc7.1) Kc8.1) Kc9.1) Kc10.1) Kc11.1) Kc12.1) Kc13.1) Kc14.1) Kc16.1) S_CS (by first | assumption | rfl) (((((((((((O0.keep Kc5 all0).keep Kc6 all0).keep Kc7 all0).keep Kc8 all0).keep Kc9 all0).keep Kc10 all0).keep Kc11 all0).keep Kc12 all0).keep Kc13 all0).keep Kc14 all0).keep Kc16 all0)) hZ (hw _ (List.mem_of_getElem? (i := 3) rfl)) (hw _ (List.mem_of_getElem? (i := 2) rfl)) (by decide) (by decide)) (g := (mkF m 130 #[.val (.int p1), .val (.int p2), .val (.int p3), .val (.int p4), .val w5, .val w6, .val w7, .val w8, .val w9, .val w10, .val w11, .val w12, .val w13, .val w14, .val .null, .val w16, .unset] [(.int (12 : Int32)), (.int p4), (.int (24 : Int32)), (.int p3)])) rfl (by rw [hml]; rfl) (argsL := [(.int p3), (.int (24 : Int32)), (.int p4), (.int (12 : Int32))]) (rest := []) (lenOf pd_0 rfl) rfl (by show 2 * 0 + _ ≤ _; exact Nat.le_of_eq rfl) (hb hby at_130) (fun _ _ => ⟨rfl, rfl, (by decide : 33 + 3 ≤ _), (by decide : 66 + 6 ≤ _)⟩)) (c' := 36) (n' := 72) rfl rfl
    obtain ⟨⟨w17, rfl, r17⟩, N17q, Kc17⟩ := hQ17
    have N17 := Fr.app N16 N17q
    refine own_go st17 ?_
    have K17 : Keep h0 T17.heap [] := K16.trans Kc17 all0
    show own_Go p.tables e below _ (T17.setTop (mkF m 133 #[.val (.int p1), .val (.int p2), .val (.int p3), .val (.int p4), .val w5, .val w6, .val w7, .val w8, .val w9, .val w10, .val w11, .val w12, .val w13, .val w14, .val .null, .val w16, .unset] [w17]))
    refine own_go (fun _ => XS.astore X17.here hx rfl (hb hby at_133) rfl r17 (l' := #[.val (.int p1), .val (.int p2), .val (.int p3), .val (.int p4), .val w5, .val w6, .val w7, .val w8, .val w9, .val w10, .val w11, .val w12, .val w13, .val w14, .val .null, .val w16, .val w17]) (by rcases ref_cases r17 with rfl | ⟨z_w17, rfl⟩; all_goals rcases ref_cases r16 with rfl | ⟨z_w16, rfl⟩; all_goals rfl)) ?_
    show own_Go p.tables e below _ (T17.setTop (mkF m 135 #[.val (.int p1), .val (.int p2), .val (.int p3), .val (.int p4), .val w5, .val w6, .val w7, .val w8, .val w9, .val w10, .val w11, .val w12, .val w13, .val w14, .val .null, .val w16, .val w17] []))
    obtain ⟨T18, h18, X18, e18, E18, A18, D18, -, st18⟩ := newO X17 hx hZ hown (hw _ (List.mem_of_getElem? (i := 34) rfl)) (hw _ (List.mem_of_getElem? (i := 35) rfl)) (hw _ (List.mem_of_getElem? (i := 36) rfl)) rfl (g := (mkF m 135 #[.val (.int p1), .val (.int p2), .val (.int p3), .val (.int p4), .val w5, .val w6, .val w7, .val w8, .val w9, .val w10, .val w11, .val w12, .val w13, .val w14, .val .null, .val w16, .val w17] [])) rfl (hb hby at_135) (by decide) (by decide)
    obtain ⟨b18, g18⟩ : ∃ z, z = T17.heap.size := ⟨_, rfl⟩
    rw [← g18] at A18 D18 st18
    refine own_go st18 ?_
    have g_b18 : n0 ≤ b18 := Nat.le_trans (Nat.le_trans (Nat.le_trans (Nat.le_trans (Nat.le_trans (Nat.le_trans (Nat.le_trans (Nat.le_trans (Nat.le_trans (Nat.le_trans (Nat.le_trans (Nat.le_trans (Nat.le_trans Z0 Kc5.1) Kc6.1) Kc7.1) Kc8.1) Kc9.1) Kc10.1) Kc11.1) Kc12.1) Kc13.1) Kc14.1) Kc16.1) Kc17.1) (Nat.le_of_eq g18.symm)
    have sz_b18 : h0.size ≤ b18 := (Nat.le_trans K17.1 (Nat.le_of_eq g18.symm))
    have K18 : Keep h0 h18 [] := K17.ext E18
    have F_codiceDiagnosi_b18 : Fld Z h18 b18 "com/example/attesta/attesta/contract/Diagnosi" "codiceDiagnosi" "Ljava/lang/String;" .null := D18 (Or.inr (hw _ (List.mem_of_getElem? (i := 47) rfl))) (ty := (.object "java/lang/String")) (by decide)
    have F_noteDiagnosi_b18 : Fld Z h18 b18 "com/example/attesta/attesta/contract/Diagnosi" "noteDiagnosi" "Ljava/lang/String;" .null := D18 (Or.inr (hw _ (List.mem_of_getElem? (i := 49) rfl))) (ty := (.object "java/lang/String")) (by decide)
    show own_Go p.tables e below _ (T18.setTop (mkF m 138 #[.val (.int p1), .val (.int p2), .val (.int p3), .val (.int p4), .val w5, .val w6, .val w7, .val w8, .val w9, .val w10, .val w11, .val w12, .val w13, .val w14, .val .null, .val w16, .val w17] [(.ref b18)]))
    refine own_go (fun _ => XS.dup X18.here hx rfl (hb hby at_138) rfl rfl) ?_
    show own_Go p.tables e below _ (T18.setTop (mkF m 139 #[.val (.int p1), .val (.int p2), .val (.int p3), .val (.int p4), .val w5, .val w6, .val w7, .val w8, .val w9, .val w10, .val w11, .val w12, .val w13, .val w14, .val .null, .val w16, .val w17] [(.ref b18), (.ref b18)]))
    refine own_go (fun _ => XS.aload X18.here hx rfl (hb hby at_139) rfl r16) ?_
    show own_Go p.tables e below _ (T18.setTop (mkF m 141 #[.val (.int p1), .val (.int p2), .val (.int p3), .val (.int p4), .val w5, .val w6, .val w7, .val w8, .val w9, .val w10, .val w11, .val w12, .val w13, .val w14, .val .null, .val w16, .val w17] [w16, (.ref b18), (.ref b18)]))
    refine own_go (fun _ => XS.aload X18.here hx rfl (hb hby at_141) rfl r17) ?_
    show own_Go p.tables e below _ (T18.setTop (mkF m 143 #[.val (.int p1), .val (.int p2), .val (.int p3), .val (.int p4), .val w5, .val w6, .val w7, .val w8, .val w9, .val w10, .val w11, .val w12, .val w13, .val w14, .val .null, .val w16, .val w17] [w17, w16, (.ref b18), (.ref b18)]))
    obtain ⟨v19, T19, L19, X19, hQ19, st19⟩ := own_tidyV X18 (X18.specialBack hx (y := (⟨"com/example/attesta/attesta/contract/Diagnosi", "<init>", "(Ljava/lang/String;Ljava/lang/String;)V"⟩ : MethodName)) rfl hown (mvT hZ (hw _ (List.mem_of_getElem? (i := 37) rfl))) (mvT hZ (hw _ (List.mem_of_getElem? (i := 38) rfl))) (mvT hZ (hw _ (List.mem_of_getElem? (i := 39) rfl))) (by decide) (backOf (W := 1) (rm8 l Z a0 hw [] b18 w16 w17 .null .null h18 n0 (Nat.le_trans (Nat.le_trans (Nat.le_trans (Nat.le_trans (Nat.le_trans (Nat.le_trans (Nat.le_trans (Nat.le_trans (Nat.le_trans (Nat.le_trans (Nat.le_trans (Nat.le_trans (Nat.le_trans Z0 Kc5.1) Kc6.1) Kc7.1) Kc8.1) Kc9.1) Kc10.1) Kc11.1) Kc12.1) Kc13.1) Kc14.1) Kc16.1) Kc17.1) E18.1) (by first | assumption | rfl) (by first | assumption | rfl) A18 F_codiceDiagnosi_b18 g_b18 F_noteDiagnosi_b18) hZ (hw _ (List.mem_of_getElem? (i := 39) rfl)) (hw _ (List.mem_of_getElem? (i := 36) rfl)) (by decide) (by decide)) (g := (mkF m 143 #[.val (.int p1), .val (.int p2), .val (.int p3), .val (.int p4), .val w5, .val w6, .val w7, .val w8, .val w9, .val w10, .val w11, .val w12, .val w13, .val w14, .val .null, .val w16, .val w17] [w17, w16, (.ref b18), (.ref b18)])) rfl (by rw [hml]; rfl) (Steps.refl _) (a := b18) (argsL := [w16, w17]) (rest := [(.ref b18)]) (lenOf pd_7 rfl) rfl (by show 2 * 0 + _ ≤ _; exact Nat.le_of_eq rfl) (hb hby at_143) (fun _ _ => ⟨rfl, e18, (by decide : 37 + 0 ≤ _), (by decide : 74 + 0 ≤ _)⟩)) (c' := 37) (n' := 74) rfl rfl
    obtain ⟨rfl, N19q, Kc19, F19_0, F19_1, F19_2⟩ := hQ19
    have N19 := Fr.app N17 N19q
    refine own_via st19 ?_
    have K19 : Keep h0 T19.heap [] := K18.trans Kc19 (allS (Or.inr sz_b18) all0)
    show own_Go p.tables e below _ (T19.setTop (mkF m 146 #[.val (.int p1), .val (.int p2), .val (.int p3), .val (.int p4), .val w5, .val w6, .val w7, .val w8, .val w9, .val w10, .val w11, .val w12, .val w13, .val w14, .val .null, .val w16, .val w17] [(.ref b18)]))
    refine own_go (fun _ => XS.astore X19.here hx rfl (hb hby at_146) rfl rfl (l' := #[.val (.int p1), .val (.int p2), .val (.int p3), .val (.int p4), .val w5, .val w6, .val w7, .val w8, .val w9, .val w10, .val w11, .val w12, .val w13, .val w14, .val (.ref b18), .val w16, .val w17]) (by rcases ref_cases r14 with rfl | ⟨z_w14, rfl⟩; all_goals rcases ref_cases r16 with rfl | ⟨z_w16, rfl⟩; all_goals rfl)) ?_
    show own_Go p.tables e below _ (T19.setTop (mkF m 148 #[.val (.int p1), .val (.int p2), .val (.int p3), .val (.int p4), .val w5, .val w6, .val w7, .val w8, .val w9, .val w10, .val w11, .val w12, .val w13, .val w14, .val (.ref b18), .val w16, .val w17] []))
    obtain ⟨T20, h20, X20, e20, E20, A20, D20, -, st20⟩ := newO X19 hx hZ hown (hw _ (List.mem_of_getElem? (i := 50) rfl)) (hw _ (List.mem_of_getElem? (i := 51) rfl)) (hw _ (List.mem_of_getElem? (i := 52) rfl)) rfl (g := (mkF m 148 #[.val (.int p1), .val (.int p2), .val (.int p3), .val (.int p4), .val w5, .val w6, .val w7, .val w8, .val w9, .val w10, .val w11, .val w12, .val w13, .val w14, .val (.ref b18), .val w16, .val w17] [])) rfl (hb hby at_148) (by decide) (by decide)
    obtain ⟨b20, g20⟩ : ∃ z, z = T19.heap.size := ⟨_, rfl⟩
    rw [← g20] at A20 D20 st20
    refine own_go st20 ?_
    have g_b20 : n0 ≤ b20 := Nat.le_trans (Nat.le_trans (Nat.le_trans (Nat.le_trans (Nat.le_trans (Nat.le_trans (Nat.le_trans (Nat.le_trans (Nat.le_trans (Nat.le_trans (Nat.le_trans (Nat.le_trans (Nat.le_trans (Nat.le_trans (Nat.le_trans Z0 Kc5.1) Kc6.1) Kc7.1) Kc8.1) Kc9.1) Kc10.1) Kc11.1) Kc12.1) Kc13.1) Kc14.1) Kc16.1) Kc17.1) E18.1) Kc19.1) (Nat.le_of_eq g20.symm)
    have sz_b20 : h0.size ≤ b20 := (Nat.le_trans K19.1 (Nat.le_of_eq g20.symm))
    have K20 : Keep h0 h20 [] := K19.ext E20
    have F_ruoloMedico_b20 : Fld Z h20 b20 "com/example/attesta/attesta/contract/Malattia" "ruoloMedico" "Ljava/lang/String;" .null := D20 (Or.inr (hw _ (List.mem_of_getElem? (i := 58) rfl))) (ty := (.object "java/lang/String")) (by decide)
    have F_dataRilascio_b20 : Fld Z h20 b20 "com/example/attesta/attesta/contract/Malattia" "dataRilascio" "Ljava/lang/String;" .null := D20 (Or.inr (hw _ (List.mem_of_getElem? (i := 60) rfl))) (ty := (.object "java/lang/String")) (by decide)
    have F_dataInizio_b20 : Fld Z h20 b20 "com/example/attesta/attesta/contract/Malattia" "dataInizio" "Ljava/lang/String;" .null := D20 (Or.inr (hw _ (List.mem_of_getElem? (i := 62) rfl))) (ty := (.object "java/lang/String")) (by decide)
    have F_dataFine_b20 : Fld Z h20 b20 "com/example/attesta/attesta/contract/Malattia" "dataFine" "Ljava/lang/String;" .null := D20 (Or.inr (hw _ (List.mem_of_getElem? (i := 64) rfl))) (ty := (.object "java/lang/String")) (by decide)
    have F_visita_b20 : Fld Z h20 b20 "com/example/attesta/attesta/contract/Malattia" "visita" "Ljava/lang/String;" .null := D20 (Or.inr (hw _ (List.mem_of_getElem? (i := 66) rfl))) (ty := (.object "java/lang/String")) (by decide)
    have F_tipoCertificato_b20 : Fld Z h20 b20 "com/example/attesta/attesta/contract/Malattia" "tipoCertificato" "Ljava/lang/String;" .null := D20 (Or.inr (hw _ (List.mem_of_getElem? (i := 68) rfl))) (ty := (.object "java/lang/String")) (by decide)
    have F_diagnosi_b20 : Fld Z h20 b20 "com/example/attesta/attesta/contract/Malattia" "diagnosi" "Lcom/example/attesta/attesta/contract/Diagnosi;" .null := D20 (Or.inr (hw _ (List.mem_of_getElem? (i := 70) rfl))) (ty := (.object "com/example/attesta/attesta/contract/Diagnosi")) (by decide)
    have F_giornataLavorata_b20 : Fld Z h20 b20 "com/example/attesta/attesta/contract/Malattia" "giornataLavorata" "Ljava/lang/String;" .null := D20 (Or.inr (hw _ (List.mem_of_getElem? (i := 72) rfl))) (ty := (.object "java/lang/String")) (by decide)
    have F_trauma_b20 : Fld Z h20 b20 "com/example/attesta/attesta/contract/Malattia" "trauma" "Ljava/lang/String;" .null := D20 (Or.inr (hw _ (List.mem_of_getElem? (i := 74) rfl))) (ty := (.object "java/lang/String")) (by decide)
    have F_agevolazioni_b20 : Fld Z h20 b20 "com/example/attesta/attesta/contract/Malattia" "agevolazioni" "Ljava/lang/String;" .null := D20 (Or.inr (hw _ (List.mem_of_getElem? (i := 76) rfl))) (ty := (.object "java/lang/String")) (by decide)
    show own_Go p.tables e below _ (T20.setTop (mkF m 151 #[.val (.int p1), .val (.int p2), .val (.int p3), .val (.int p4), .val w5, .val w6, .val w7, .val w8, .val w9, .val w10, .val w11, .val w12, .val w13, .val w14, .val (.ref b18), .val w16, .val w17] [(.ref b20)]))
    refine own_go (fun _ => XS.dup X20.here hx rfl (hb hby at_151) rfl rfl) ?_
    show own_Go p.tables e below _ (T20.setTop (mkF m 152 #[.val (.int p1), .val (.int p2), .val (.int p3), .val (.int p4), .val w5, .val w6, .val w7, .val w8, .val w9, .val w10, .val w11, .val w12, .val w13, .val w14, .val (.ref b18), .val w16, .val w17] [(.ref b20), (.ref b20)]))
    refine own_go (fun _ => XS.aload X20.here hx rfl (hb hby at_152) rfl r5) ?_
    show own_Go p.tables e below _ (T20.setTop (mkF m 154 #[.val (.int p1), .val (.int p2), .val (.int p3), .val (.int p4), .val w5, .val w6, .val w7, .val w8, .val w9, .val w10, .val w11, .val w12, .val w13, .val w14, .val (.ref b18), .val w16, .val w17] [w5, (.ref b20), (.ref b20)]))
    refine own_go (fun _ => XS.aload X20.here hx rfl (hb hby at_154) rfl r6) ?_
    show own_Go p.tables e below _ (T20.setTop (mkF m 156 #[.val (.int p1), .val (.int p2), .val (.int p3), .val (.int p4), .val w5, .val w6, .val w7, .val w8, .val w9, .val w10, .val w11, .val w12, .val w13, .val w14, .val (.ref b18), .val w16, .val w17] [w6, w5, (.ref b20), (.ref b20)]))
    refine own_go (fun _ => XS.aload X20.here hx rfl (hb hby at_156) rfl r7) ?_
    show own_Go p.tables e below _ (T20.setTop (mkF m 158 #[.val (.int p1), .val (.int p2), .val (.int p3), .val (.int p4), .val w5, .val w6, .val w7, .val w8, .val w9, .val w10, .val w11, .val w12, .val w13, .val w14, .val (.ref b18), .val w16, .val w17] [w7, w6, w5, (.ref b20), (.ref b20)]))
    refine own_go (fun _ => XS.aload X20.here hx rfl (hb hby at_158) rfl r8) ?_
    show own_Go p.tables e below _ (T20.setTop (mkF m 160 #[.val (.int p1), .val (.int p2), .val (.int p3), .val (.int p4), .val w5, .val w6, .val w7, .val w8, .val w9, .val w10, .val w11, .val w12, .val w13, .val w14, .val (.ref b18), .val w16, .val w17] [w8, w7, w6, w5, (.ref b20), (.ref b20)]))
    refine own_go (fun _ => XS.aload X20.here hx rfl (hb hby at_160) rfl r9) ?_
    show own_Go p.tables e below _ (T20.setTop (mkF m 162 #[.val (.int p1), .val (.int p2), .val (.int p3), .val (.int p4), .val w5, .val w6, .val w7, .val w8, .val w9, .val w10, .val w11, .val w12, .val w13, .val w14, .val (.ref b18), .val w16, .val w17] [w9, w8, w7, w6, w5, (.ref b20), (.ref b20)]))
    refine own_go (fun _ => XS.aload X20.here hx rfl (hb hby at_162) rfl r10) ?_
    show own_Go p.tables e below _ (T20.setTop (mkF m 164 #[.val (.int p1), .val (.int p2), .val (.int p3), .val (.int p4), .val w5, .val w6, .val w7, .val w8, .val w9, .val w10, .val w11, .val w12, .val w13, .val w14, .val (.ref b18), .val w16, .val w17] [w10, w9, w8, w7, w6, w5, (.ref b20), (.ref b20)]))
    refine own_go (fun _ => XS.aload X20.here hx rfl (hb hby at_164) rfl rfl) ?_
    show own_Go p.tables e below _ (T20.setTop (mkF m 166 #[.val (.int p1), .val (.int p2), .val (.int p3), .val (.int p4), .val w5, .val w6, .val w7, .val w8, .val w9, .val w10, .val w11, .val w12, .val w13, .val w14, .val (.ref b18), .val w16, .val w17] [(.ref b18), w10, w9, w8, w7, w6, w5, (.ref b20), (.ref b20)]))
    refine own_go (fun _ => XS.aload X20.here hx rfl (hb hby at_166) rfl r11) ?_
    show own_Go p.tables e below _ (T20.setTop (mkF m 168 #[.val (.int p1), .val (.int p2), .val (.int p3), .val (.int p4), .val w5, .val w6, .val w7, .val w8, .val w9, .val w10, .val w11, .val w12, .val w13, .val w14, .val (.ref b18), .val w16, .val w17] [w11, (.ref b18), w10, w9, w8, w7, w6, w5, (.ref b20), (.ref b20)]))
    refine own_go (fun _ => XS.aload X20.here hx rfl (hb hby at_168) rfl r12) ?_
    show own_Go p.tables e below _ (T20.setTop (mkF m 170 #[.val (.int p1), .val (.int p2), .val (.int p3), .val (.int p4), .val w5, .val w6, .val w7, .val w8, .val w9, .val w10, .val w11, .val w12, .val w13, .val w14, .val (.ref b18), .val w16, .val w17] [w12, w11, (.ref b18), w10, w9, w8, w7, w6, w5, (.ref b20), (.ref b20)]))
    refine own_go (fun _ => XS.aload X20.here hx rfl (hb hby at_170) rfl r13) ?_
    show own_Go p.tables e below _ (T20.setTop (mkF m 172 #[.val (.int p1), .val (.int p2), .val (.int p3), .val (.int p4), .val w5, .val w6, .val w7, .val w8, .val w9, .val w10, .val w11, .val w12, .val w13, .val w14, .val (.ref b18), .val w16, .val w17] [w13, w12, w11, (.ref b18), w10, w9, w8, w7, w6, w5, (.ref b20), (.ref b20)]))
    obtain ⟨v21, T21, L21, X21, hQ21, st21⟩ := own_tidyV X20 (X20.specialBack hx (y := (⟨"com/example/attesta/attesta/contract/Malattia", "<init>", "(Ljava/lang/String;Ljava/lang/String;Ljava/lang/String;Ljava/lang/String;Ljava/lang/String;Ljava/lang/String;Lcom/example/attesta/attesta/contract/Diagnosi;Ljava/lang/String;Ljava/lang/String;Ljava/lang/String;)V"⟩ : MethodName)) rfl hown (mvT hZ (hw _ (List.mem_of_getElem? (i := 53) rfl))) (mvT hZ (hw _ (List.mem_of_getElem? (i := 54) rfl))) (mvT hZ (hw _ (List.mem_of_getElem? (i := 55) rfl))) (by decide) (backOf (W := 1) (rm10 l Z a0 hw [] b20 w5 w6 w7 w8 w9 w10 (.ref b18) w11 w12 w13 .null .null .null .null .null .null .null .null .null .null h20 n0 (Nat.le_trans (Nat.le_trans (Nat.le_trans (Nat.le_trans (Nat.le_trans (Nat.le_trans (Nat.le_trans (Nat.le_trans (Nat.le_trans (Nat.le_trans (Nat.le_trans (Nat.le_trans (Nat.le_trans (Nat.le_trans (Nat.le_trans Z0 Kc5.1) Kc6.1) Kc7.1) Kc8.1) Kc9.1) Kc10.1) Kc11.1) Kc12.1) Kc13.1) Kc14.1) Kc16.1) Kc17.1) E18.1) Kc19.1) E20.1) (by first | assumption | rfl) (by first | assumption | rfl) (by first | assumption | rfl) (by first | assumption | rfl) (by first | assumption | rfl) (by first | assumption | rfl) (by first | assumption | rfl) (by first | assumption | rfl) (by first | assumption | rfl) (by first | assumption | rfl) A20 F_ruoloMedico_b20 g_b20 F_dataRilascio_b20 F_dataInizio_b20 F_dataFine_b20 F_visita_b20 F_tipoCertificato_b20 F_diagnosi_b20 F_giornataLavorata_b20 F_trauma_b20 F_agevolazioni_b20) hZ (hw _ (List.mem_of_getElem? (i := 55) rfl)) (hw _ (List.mem_of_getElem? (i := 52) rfl)) (by decide) (by decide)) (g := (mkF m 172 #[.val (.int p1), .val (.int p2), .val (.int p3), .val (.int p4), .val w5, .val w6, .val w7, .val w8, .val w9, .val w10, .val w11, .val w12, .val w13, .val w14, .val (.ref b18), .val w16, .val w17] [w13, w12, w11, (.ref b18), w10, w9, w8, w7, w6, w5, (.ref b20), (.ref b20)])) rfl (by rw [hml]; rfl) (Steps.refl _) (a := b20) (argsL := [w5, w6, w7, w8, w9, w10, (.ref b18), w11, w12, w13]) (rest := [(.ref b20)]) (lenOf pd_8 rfl) rfl (by show 2 * 0 + _ ≤ _; exact Nat.le_of_eq rfl) (hb hby at_172) (fun _ _ => ⟨rfl, e20, (by decide : 38 + 0 ≤ _), (by decide : 84 + 0 ≤ _)⟩)) (c' := 38) (n' := 84) rfl rfl
    obtain ⟨rfl, N21q, Kc21, F21_0, F21_1, F21_2, F21_3, F21_4, F21_5, F21_6, F21_7, F21_8, F21_9, F21_10⟩ := hQ21
    have N21 := Fr.app N19 N21q
    refine own_via st21 ?_
    have K21 : Keep h0 T21.heap [] := K20.trans Kc21 (allS (Or.inr sz_b20) all0)
    show own_Go p.tables e below _ (T21.setTop (mkF m 175 #[.val (.int p1), .val (.int p2), .val (.int p3), .val (.int p4), .val w5, .val w6, .val w7, .val w8, .val w9, .val w10, .val w11, .val w12, .val w13, .val w14, .val (.ref b18), .val w16, .val w17] [(.ref b20)]))
    refine own_go (fun _ => XS.astore X21.here hx rfl (hb hby at_175) rfl rfl (l' := #[.val (.int p1), .val (.int p2), .val (.int p3), .val (.int p4), .val w5, .val w6, .val w7, .val w8, .val w9, .val w10, .val w11, .val w12, .val w13, .val w14, .val (.ref b18), .val (.ref b20), .val w17]) (by rcases ref_cases r16 with rfl | ⟨z_w16, rfl⟩; all_goals rcases ref_cases r17 with rfl | ⟨z_w17, rfl⟩; all_goals rfl)) ?_
    show own_Go p.tables e below _ (T21.setTop (mkF m 177 #[.val (.int p1), .val (.int p2), .val (.int p3), .val (.int p4), .val w5, .val w6, .val w7, .val w8, .val w9, .val w10, .val w11, .val w12, .val w13, .val w14, .val (.ref b18), .val (.ref b20), .val w17] []))
    refine own_go (fun _ => XS.aload X21.here hx rfl (hb hby at_177) rfl rfl) ?_
    show own_Go p.tables e below _ (T21.setTop (mkF m 179 #[.val (.int p1), .val (.int p2), .val (.int p3), .val (.int p4), .val w5, .val w6, .val w7, .val w8, .val w9, .val w10, .val w11, .val w12, .val w13, .val w14, .val (.ref b18), .val (.ref b20), .val w17] [(.ref b20)]))
    refine own_go (fun _ => XS.aload X21.here hx rfl (hb hby at_179) rfl r14) ?_
    show own_Go p.tables e below _ (T21.setTop (mkF m 181 #[.val (.int p1), .val (.int p2), .val (.int p3), .val (.int p4), .val w5, .val w6, .val w7, .val w8, .val w9, .val w10, .val w11, .val w12, .val w13, .val w14, .val (.ref b18), .val (.ref b20), .val w17] [w14, (.ref b20)]))
    obtain ⟨cq22, kq22, q22a, q22b, q22c⟩ := isOf hZ rfl F21_0
    obtain ⟨v22, T22, L22, X22, hQ22, st22⟩ := own_tidyV X21 (X21.virtualBack hx (y := (⟨"com/example/attesta/attesta/contract/Malattia", "withDataFine", "(Ljava/lang/String;)Lcom/example/attesta/attesta/contract/Malattia;"⟩ : MethodName)) (z := (⟨"com/example/attesta/attesta/contract/Malattia", "withDataFine", "(Ljava/lang/String;)Lcom/example/attesta/attesta/contract/Malattia;"⟩ : MethodName)) hown (mvT hZ (hw _ (List.mem_of_getElem? (i := 77) rfl))) (mvT hZ (hw _ (List.mem_of_getElem? (i := 78) rfl))) (notFace_of_selects (args := #[]) (mvT hZ (hw _ (List.mem_of_getElem? (i := 80) rfl)))) (mvT hZ (hw _ (List.mem_of_getElem? (i := 80) rfl))) (mvT hZ (hw _ (List.mem_of_getElem? (i := 79) rfl))) (by decide) (backOf (W := 0) (rm11 l Z a0 hw [] b20 w14 w5 w6 w7 w9 w10 (.ref b18) w11 w12 w13 T21.heap n0 (Nat.le_trans (Nat.le_trans (Nat.le_trans (Nat.le_trans (Nat.le_trans (Nat.le_trans (Nat.le_trans (Nat.le_trans (Nat.le_trans (Nat.le_trans (Nat.le_trans (Nat.le_trans (Nat.le_trans (Nat.le_trans (Nat.le_trans (Nat.le_trans Z0 Kc5.1) Kc6.1) Kc7.1) Kc8.1) Kc9.1) Kc10.1) Kc11.1) Kc12.1) Kc13.1) Kc14.1) Kc16.1) Kc17.1) E18.1) Kc19.1) E20.1) Kc21.1) (by first | assumption | rfl) (by first | assumption | rfl) F21_1 (by first | assumption | rfl) F21_2 (by first | assumption | rfl) F21_3 (by first | assumption | rfl) F21_5 (by first | assumption | rfl) F21_6 (by first | assumption | rfl) F21_7 (by first | assumption | rfl) F21_8 (by first | assumption | rfl) F21_9 (by first | assumption | rfl) F21_10) hZ (hw _ (List.mem_of_getElem? (i := 81) rfl)) (hw _ (List.mem_of_getElem? (i := 52) rfl)) (by decide) (by decide)) q22a q22c (g := (mkF m 181 #[.val (.int p1), .val (.int p2), .val (.int p3), .val (.int p4), .val w5, .val w6, .val w7, .val w8, .val w9, .val w10, .val w11, .val w12, .val w13, .val w14, .val (.ref b18), .val (.ref b20), .val w17] [w14, (.ref b20)])) rfl (by rw [hml]; rfl) (Steps.refl _) (argsL := [w14]) (rest := []) (lenOf pd_9 rfl) rfl (by show 2 * 0 + _ ≤ _; exact Nat.le_of_eq rfl) (hb hby at_181) (fun _ _ => ⟨rfl, rfl, (by decide : 38 + 1 ≤ _), (by decide : 84 + 10 ≤ _)⟩)) (c' := 39) (n' := 94) rfl rfl
    obtain ⟨rfl, N22q, Kc22, F22_0, F22_1, F22_2, F22_3, F22_4, F22_5, F22_6, F22_7, F22_8, F22_9, F22_10⟩ := hQ22
    have N22 := Fr.app N21 N22q
    have K22 : Keep h0 T22.heap [] := K21.trans Kc22 all0
    obtain ⟨b22, g22⟩ : ∃ z, z = T21.heap.size := ⟨_, rfl⟩
    rw [← g22] at F22_0 F22_1 F22_2 F22_3 F22_4 F22_5 F22_6 F22_7 F22_8 F22_9 F22_10 st22
    have g_b22 : n0 ≤ b22 := Nat.le_trans (Nat.le_trans (Nat.le_trans (Nat.le_trans (Nat.le_trans (Nat.le_trans (Nat.le_trans (Nat.le_trans (Nat.le_trans (Nat.le_trans (Nat.le_trans (Nat.le_trans (Nat.le_trans (Nat.le_trans (Nat.le_trans (Nat.le_trans (Nat.le_trans Z0 Kc5.1) Kc6.1) Kc7.1) Kc8.1) Kc9.1) Kc10.1) Kc11.1) Kc12.1) Kc13.1) Kc14.1) Kc16.1) Kc17.1) E18.1) Kc19.1) E20.1) Kc21.1) (Nat.le_of_eq g22.symm)
    have sz_b22 : h0.size ≤ b22 := (Nat.le_trans K21.1 (Nat.le_of_eq g22.symm))
    refine own_via st22 ?_
    show own_Go p.tables e below _ (T22.setTop (mkF m 184 #[.val (.int p1), .val (.int p2), .val (.int p3), .val (.int p4), .val w5, .val w6, .val w7, .val w8, .val w9, .val w10, .val w11, .val w12, .val w13, .val w14, .val (.ref b18), .val (.ref b20), .val w17] [(.ref b22)]))
    refine own_go (fun _ => XS.astore X22.here hx rfl (hb hby at_184) rfl rfl (l' := #[.val (.int p1), .val (.int p2), .val (.int p3), .val (.int p4), .val w5, .val w6, .val w7, .val w8, .val w9, .val w10, .val w11, .val w12, .val w13, .val w14, .val (.ref b18), .val (.ref b20), .val (.ref b22)]) (by rcases ref_cases r17 with rfl | ⟨z_w17, rfl⟩; all_goals rfl)) ?_
    show own_Go p.tables e below _ (T22.setTop (mkF m 186 #[.val (.int p1), .val (.int p2), .val (.int p3), .val (.int p4), .val w5, .val w6, .val w7, .val w8, .val w9, .val w10, .val w11, .val w12, .val w13, .val w14, .val (.ref b18), .val (.ref b20), .val (.ref b22)] []))
    refine own_go (fun _ => XS.aload X22.here hx rfl (hb hby at_186) rfl rfl) ?_
    show own_Go p.tables e below _ (T22.setTop (mkF m 188 #[.val (.int p1), .val (.int p2), .val (.int p3), .val (.int p4), .val w5, .val w6, .val w7, .val w8, .val w9, .val w10, .val w11, .val w12, .val w13, .val w14, .val (.ref b18), .val (.ref b20), .val (.ref b22)] [(.ref b22)]))
    refine own_go (fun _ => XS.ifnonnullYes X22.here hx rfl (pc0 := 188) (pc' := 193) rfl (hb hby at_188) rfl (by decide) (by decide)) ?_
    show own_Go p.tables e below _ (T22.setTop (mkF m 193 #[.val (.int p1), .val (.int p2), .val (.int p3), .val (.int p4), .val w5, .val w6, .val w7, .val w8, .val w9, .val w10, .val w11, .val w12, .val w13, .val w14, .val (.ref b18), .val (.ref b20), .val (.ref b22)] []))
    refine own_go (fun _ => XS.aload X22.here hx rfl (hb hby at_193) rfl rfl) ?_
    show own_Go p.tables e below _ (T22.setTop (mkF m 195 #[.val (.int p1), .val (.int p2), .val (.int p3), .val (.int p4), .val w5, .val w6, .val w7, .val w8, .val w9, .val w10, .val w11, .val w12, .val w13, .val w14, .val (.ref b18), .val (.ref b20), .val (.ref b22)] [(.ref b22)]))
    obtain ⟨cq23, kq23, q23a, q23b, q23c⟩ := isOf hZ rfl F22_0
    obtain ⟨v23, T23, L23, X23, hQ23, st23⟩ := own_tidyV X22 (X22.virtualBack hx (y := (⟨"com/example/attesta/attesta/contract/Malattia", "ruoloMedico", "()Ljava/lang/String;"⟩ : MethodName)) (z := (⟨"com/example/attesta/attesta/contract/Malattia", "ruoloMedico", "()Ljava/lang/String;"⟩ : MethodName)) hown (mvT hZ (hw _ (List.mem_of_getElem? (i := 84) rfl))) (mvT hZ (hw _ (List.mem_of_getElem? (i := 85) rfl))) (notFace_of_selects (args := #[]) (mvT hZ (hw _ (List.mem_of_getElem? (i := 87) rfl)))) (mvT hZ (hw _ (List.mem_of_getElem? (i := 87) rfl))) (mvT hZ (hw _ (List.mem_of_getElem? (i := 86) rfl))) (by decide) (backOf (W := 0) (rm12 l Z a0 hw [] b22 w5 T22.heap n0 (Nat.le_trans (Nat.le_trans (Nat.le_trans (Nat.le_trans (Nat.le_trans (Nat.le_trans (Nat.le_trans (Nat.le_trans (Nat.le_trans (Nat.le_trans (Nat.le_trans (Nat.le_trans (Nat.le_trans (Nat.le_trans (Nat.le_trans (Nat.le_trans (Nat.le_trans Z0 Kc5.1) Kc6.1) Kc7.1) Kc8.1) Kc9.1) Kc10.1) Kc11.1) Kc12.1) Kc13.1) Kc14.1) Kc16.1) Kc17.1) E18.1) Kc19.1) E20.1) Kc21.1) Kc22.1) (by first | assumption | rfl) F22_1) hZ (hw _ (List.mem_of_getElem? (i := 88) rfl)) (hw _ (List.mem_of_getElem? (i := 52) rfl)) (by decide) (by decide)) q23a q23c (g := (mkF m 195 #[.val (.int p1), .val (.int p2), .val (.int p3), .val (.int p4), .val w5, .val w6, .val w7, .val w8, .val w9, .val w10, .val w11, .val w12, .val w13, .val w14, .val (.ref b18), .val (.ref b20), .val (.ref b22)] [(.ref b22)])) rfl (by rw [hml]; rfl) (Steps.refl _) (argsL := []) (rest := []) (lenOf pd_10 rfl) rfl (by show 2 * 0 + _ ≤ _; exact Nat.le_of_eq rfl) (hb hby at_195) (fun _ _ => ⟨rfl, rfl, (by decide : 39 + 0 ≤ _), (by decide : 94 + 0 ≤ _)⟩)) (c' := 39) (n' := 94) rfl rfl
    obtain ⟨rfl, N23q, e23⟩ := hQ23
    have N23 := Fr.app N22 N23q
    refine own_via st23 ?_
    show own_Go p.tables e below _ (T23.setTop (mkF m 198 #[.val (.int p1), .val (.int p2), .val (.int p3), .val (.int p4), .val w5, .val w6, .val w7, .val w8, .val w9, .val w10, .val w11, .val w12, .val w13, .val w14, .val (.ref b18), .val (.ref b20), .val (.ref b22)] [w5]))
    refine own_go (fun _ => XS.aload X23.here hx rfl (hb hby at_198) rfl r5) ?_
    show own_Go p.tables e below _ (T23.setTop (mkF m 200 #[.val (.int p1), .val (.int p2), .val (.int p3), .val (.int p4), .val w5, .val w6, .val w7, .val w8, .val w9, .val w10, .val w11, .val w12, .val w13, .val w14, .val (.ref b18), .val (.ref b20), .val (.ref b22)] [w5, w5]))
    refine own_go (fun _ => Jvm.RoadKit.acmp (g := (mkF m 200 #[.val (.int p1), .val (.int p2), .val (.int p3), .val (.int p4), .val w5, .val w6, .val w7, .val w8, .val w9, .val w10, .val w11, .val w12, .val w13, .val w14, .val (.ref b18), .val (.ref b20), .val (.ref b22)] [w5, w5])) X23 hx rfl r5 r5 (pc0 := 200) (pc' := 203) (same := true) rfl (hb hby at_200) rfl (decide_eq_true rfl) (by decide) (by decide)) ?_
    show own_Go p.tables e below _ (T23.setTop (mkF m 203 #[.val (.int p1), .val (.int p2), .val (.int p3), .val (.int p4), .val w5, .val w6, .val w7, .val w8, .val w9, .val w10, .val w11, .val w12, .val w13, .val w14, .val (.ref b18), .val (.ref b20), .val (.ref b22)] []))
    refine own_go (fun _ => XS.aload X23.here hx rfl (hb hby at_203) rfl rfl) ?_
    show own_Go p.tables e below _ (T23.setTop (mkF m 205 #[.val (.int p1), .val (.int p2), .val (.int p3), .val (.int p4), .val w5, .val w6, .val w7, .val w8, .val w9, .val w10, .val w11, .val w12, .val w13, .val w14, .val (.ref b18), .val (.ref b20), .val (.ref b22)] [(.ref b22)]))
    obtain ⟨cq24, kq24, q24a, q24b, q24c⟩ := isOf hZ e23 F22_0
    obtain ⟨v24, T24, L24, X24, hQ24, st24⟩ := own_tidyV X23 (X23.virtualBack hx (y := (⟨"com/example/attesta/attesta/contract/Malattia", "dataRilascio", "()Ljava/lang/String;"⟩ : MethodName)) (z := (⟨"com/example/attesta/attesta/contract/Malattia", "dataRilascio", "()Ljava/lang/String;"⟩ : MethodName)) hown (mvT hZ (hw _ (List.mem_of_getElem? (i := 89) rfl))) (mvT hZ (hw _ (List.mem_of_getElem? (i := 90) rfl))) (notFace_of_selects (args := #[]) (mvT hZ (hw _ (List.mem_of_getElem? (i := 92) rfl)))) (mvT hZ (hw _ (List.mem_of_getElem? (i := 92) rfl))) (mvT hZ (hw _ (List.mem_of_getElem? (i := 91) rfl))) (by decide) (backOf (W := 0) (rm13 l Z a0 hw [] b22 w6 T22.heap n0 (Nat.le_trans (Nat.le_trans (Nat.le_trans (Nat.le_trans (Nat.le_trans (Nat.le_trans (Nat.le_trans (Nat.le_trans (Nat.le_trans (Nat.le_trans (Nat.le_trans (Nat.le_trans (Nat.le_trans (Nat.le_trans (Nat.le_trans (Nat.le_trans (Nat.le_trans Z0 Kc5.1) Kc6.1) Kc7.1) Kc8.1) Kc9.1) Kc10.1) Kc11.1) Kc12.1) Kc13.1) Kc14.1) Kc16.1) Kc17.1) E18.1) Kc19.1) E20.1) Kc21.1) Kc22.1) (by first | assumption | rfl) F22_2) hZ (hw _ (List.mem_of_getElem? (i := 93) rfl)) (hw _ (List.mem_of_getElem? (i := 52) rfl)) (by decide) (by decide)) q24a q24c (g := (mkF m 205 #[.val (.int p1), .val (.int p2), .val (.int p3), .val (.int p4), .val w5, .val w6, .val w7, .val w8, .val w9, .val w10, .val w11, .val w12, .val w13, .val w14, .val (.ref b18), .val (.ref b20), .val (.ref b22)] [(.ref b22)])) rfl (by rw [hml]; rfl) (Steps.refl _) (argsL := []) (rest := []) (lenOf pd_10 rfl) rfl (by show 2 * 0 + _ ≤ _; exact Nat.le_of_eq rfl) (hb hby at_205) (fun _ _ => ⟨rfl, e23, (by decide : 39 + 0 ≤ _), (by decide : 94 + 0 ≤ _)⟩)) (c' := 39) (n' := 94) rfl rfl
    obtain ⟨rfl, N24q, e24⟩ := hQ24
    have N24 := Fr.app N23 N24q
    refine own_via st24 ?_
    show own_Go p.tables e below _ (T24.setTop (mkF m 208 #[.val (.int p1), .val (.int p2), .val (.int p3), .val (.int p4), .val w5, .val w6, .val w7, .val w8, .val w9, .val w10, .val w11, .val w12, .val w13, .val w14, .val (.ref b18), .val (.ref b20), .val (.ref b22)] [w6]))
    refine own_go (fun _ => XS.aload X24.here hx rfl (hb hby at_208) rfl r6) ?_
    show own_Go p.tables e below _ (T24.setTop (mkF m 210 #[.val (.int p1), .val (.int p2), .val (.int p3), .val (.int p4), .val w5, .val w6, .val w7, .val w8, .val w9, .val w10, .val w11, .val w12, .val w13, .val w14, .val (.ref b18), .val (.ref b20), .val (.ref b22)] [w6, w6]))
    refine own_go (fun _ => Jvm.RoadKit.acmp (g := (mkF m 210 #[.val (.int p1), .val (.int p2), .val (.int p3), .val (.int p4), .val w5, .val w6, .val w7, .val w8, .val w9, .val w10, .val w11, .val w12, .val w13, .val w14, .val (.ref b18), .val (.ref b20), .val (.ref b22)] [w6, w6])) X24 hx rfl r6 r6 (pc0 := 210) (pc' := 213) (same := true) rfl (hb hby at_210) rfl (decide_eq_true rfl) (by decide) (by decide)) ?_
    show own_Go p.tables e below _ (T24.setTop (mkF m 213 #[.val (.int p1), .val (.int p2), .val (.int p3), .val (.int p4), .val w5, .val w6, .val w7, .val w8, .val w9, .val w10, .val w11, .val w12, .val w13, .val w14, .val (.ref b18), .val (.ref b20), .val (.ref b22)] []))
    refine own_go (fun _ => XS.aload X24.here hx rfl (hb hby at_213) rfl rfl) ?_
    show own_Go p.tables e below _ (T24.setTop (mkF m 215 #[.val (.int p1), .val (.int p2), .val (.int p3), .val (.int p4), .val w5, .val w6, .val w7, .val w8, .val w9, .val w10, .val w11, .val w12, .val w13, .val w14, .val (.ref b18), .val (.ref b20), .val (.ref b22)] [(.ref b22)]))
    obtain ⟨cq25, kq25, q25a, q25b, q25c⟩ := isOf hZ e24 F22_0
    obtain ⟨v25, T25, L25, X25, hQ25, st25⟩ := own_tidyV X24 (X24.virtualBack hx (y := (⟨"com/example/attesta/attesta/contract/Malattia", "dataInizio", "()Ljava/lang/String;"⟩ : MethodName)) (z := (⟨"com/example/attesta/attesta/contract/Malattia", "dataInizio", "()Ljava/lang/String;"⟩ : MethodName)) hown (mvT hZ (hw _ (List.mem_of_getElem? (i := 94) rfl))) (mvT hZ (hw _ (List.mem_of_getElem? (i := 95) rfl))) (notFace_of_selects (args := #[]) (mvT hZ (hw _ (List.mem_of_getElem? (i := 97) rfl)))) (mvT hZ (hw _ (List.mem_of_getElem? (i := 97) rfl))) (mvT hZ (hw _ (List.mem_of_getElem? (i := 96) rfl))) (by decide) (backOf (W := 0) (rm14 l Z a0 hw [] b22 w7 T22.heap n0 (Nat.le_trans (Nat.le_trans (Nat.le_trans (Nat.le_trans (Nat.le_trans (Nat.le_trans (Nat.le_trans (Nat.le_trans (Nat.le_trans (Nat.le_trans (Nat.le_trans (Nat.le_trans (Nat.le_trans (Nat.le_trans (Nat.le_trans (Nat.le_trans (Nat.le_trans Z0 Kc5.1) Kc6.1) Kc7.1) Kc8.1) Kc9.1) Kc10.1) Kc11.1) Kc12.1) Kc13.1) Kc14.1) Kc16.1) Kc17.1) E18.1) Kc19.1) E20.1) Kc21.1) Kc22.1) (by first | assumption | rfl) F22_3) hZ (hw _ (List.mem_of_getElem? (i := 98) rfl)) (hw _ (List.mem_of_getElem? (i := 52) rfl)) (by decide) (by decide)) q25a q25c (g := (mkF m 215 #[.val (.int p1), .val (.int p2), .val (.int p3), .val (.int p4), .val w5, .val w6, .val w7, .val w8, .val w9, .val w10, .val w11, .val w12, .val w13, .val w14, .val (.ref b18), .val (.ref b20), .val (.ref b22)] [(.ref b22)])) rfl (by rw [hml]; rfl) (Steps.refl _) (argsL := []) (rest := []) (lenOf pd_10 rfl) rfl (by show 2 * 0 + _ ≤ _; exact Nat.le_of_eq rfl) (hb hby at_215) (fun _ _ => ⟨rfl, e24, (by decide : 39 + 0 ≤ _), (by decide : 94 + 0 ≤ _)⟩)) (c' := 39) (n' := 94) rfl rfl
    obtain ⟨rfl, N25q, e25⟩ := hQ25
    have N25 := Fr.app N24 N25q
    refine own_via st25 ?_
    show own_Go p.tables e below _ (T25.setTop (mkF m 218 #[.val (.int p1), .val (.int p2), .val (.int p3), .val (.int p4), .val w5, .val w6, .val w7, .val w8, .val w9, .val w10, .val w11, .val w12, .val w13, .val w14, .val (.ref b18), .val (.ref b20), .val (.ref b22)] [w7]))
    refine own_go (fun _ => XS.aload X25.here hx rfl (hb hby at_218) rfl r7) ?_
    show own_Go p.tables e below _ (T25.setTop (mkF m 220 #[.val (.int p1), .val (.int p2), .val (.int p3), .val (.int p4), .val w5, .val w6, .val w7, .val w8, .val w9, .val w10, .val w11, .val w12, .val w13, .val w14, .val (.ref b18), .val (.ref b20), .val (.ref b22)] [w7, w7]))
    refine own_go (fun _ => Jvm.RoadKit.acmp (g := (mkF m 220 #[.val (.int p1), .val (.int p2), .val (.int p3), .val (.int p4), .val w5, .val w6, .val w7, .val w8, .val w9, .val w10, .val w11, .val w12, .val w13, .val w14, .val (.ref b18), .val (.ref b20), .val (.ref b22)] [w7, w7])) X25 hx rfl r7 r7 (pc0 := 220) (pc' := 223) (same := true) rfl (hb hby at_220) rfl (decide_eq_true rfl) (by decide) (by decide)) ?_
    show own_Go p.tables e below _ (T25.setTop (mkF m 223 #[.val (.int p1), .val (.int p2), .val (.int p3), .val (.int p4), .val w5, .val w6, .val w7, .val w8, .val w9, .val w10, .val w11, .val w12, .val w13, .val w14, .val (.ref b18), .val (.ref b20), .val (.ref b22)] []))
    refine own_go (fun _ => XS.aload X25.here hx rfl (hb hby at_223) rfl rfl) ?_
    show own_Go p.tables e below _ (T25.setTop (mkF m 225 #[.val (.int p1), .val (.int p2), .val (.int p3), .val (.int p4), .val w5, .val w6, .val w7, .val w8, .val w9, .val w10, .val w11, .val w12, .val w13, .val w14, .val (.ref b18), .val (.ref b20), .val (.ref b22)] [(.ref b22)]))
    obtain ⟨cq26, kq26, q26a, q26b, q26c⟩ := isOf hZ e25 F22_0
    obtain ⟨v26, T26, L26, X26, hQ26, st26⟩ := own_tidyV X25 (X25.virtualBack hx (y := (⟨"com/example/attesta/attesta/contract/Malattia", "dataFine", "()Ljava/lang/String;"⟩ : MethodName)) (z := (⟨"com/example/attesta/attesta/contract/Malattia", "dataFine", "()Ljava/lang/String;"⟩ : MethodName)) hown (mvT hZ (hw _ (List.mem_of_getElem? (i := 99) rfl))) (mvT hZ (hw _ (List.mem_of_getElem? (i := 100) rfl))) (notFace_of_selects (args := #[]) (mvT hZ (hw _ (List.mem_of_getElem? (i := 102) rfl)))) (mvT hZ (hw _ (List.mem_of_getElem? (i := 102) rfl))) (mvT hZ (hw _ (List.mem_of_getElem? (i := 101) rfl))) (by decide) (backOf (W := 0) (rm15 l Z a0 hw [] b22 w14 T22.heap n0 (Nat.le_trans (Nat.le_trans (Nat.le_trans (Nat.le_trans (Nat.le_trans (Nat.le_trans (Nat.le_trans (Nat.le_trans (Nat.le_trans (Nat.le_trans (Nat.le_trans (Nat.le_trans (Nat.le_trans (Nat.le_trans (Nat.le_trans (Nat.le_trans (Nat.le_trans Z0 Kc5.1) Kc6.1) Kc7.1) Kc8.1) Kc9.1) Kc10.1) Kc11.1) Kc12.1) Kc13.1) Kc14.1) Kc16.1) Kc17.1) E18.1) Kc19.1) E20.1) Kc21.1) Kc22.1) (by first | assumption | rfl) F22_4) hZ (hw _ (List.mem_of_getElem? (i := 103) rfl)) (hw _ (List.mem_of_getElem? (i := 52) rfl)) (by decide) (by decide)) q26a q26c (g := (mkF m 225 #[.val (.int p1), .val (.int p2), .val (.int p3), .val (.int p4), .val w5, .val w6, .val w7, .val w8, .val w9, .val w10, .val w11, .val w12, .val w13, .val w14, .val (.ref b18), .val (.ref b20), .val (.ref b22)] [(.ref b22)])) rfl (by rw [hml]; rfl) (Steps.refl _) (argsL := []) (rest := []) (lenOf pd_10 rfl) rfl (by show 2 * 0 + _ ≤ _; exact Nat.le_of_eq rfl) (hb hby at_225) (fun _ _ => ⟨rfl, e25, (by decide : 39 + 0 ≤ _), (by decide : 94 + 0 ≤ _)⟩)) (c' := 39) (n' := 94) rfl rfl
    obtain ⟨rfl, N26q, e26⟩ := hQ26
    have N26 := Fr.app N25 N26q
    refine own_via st26 ?_
    show own_Go p.tables e below _ (T26.setTop (mkF m 228 #[.val (.int p1), .val (.int p2), .val (.int p3), .val (.int p4), .val w5, .val w6, .val w7, .val w8, .val w9, .val w10, .val w11, .val w12, .val w13, .val w14, .val (.ref b18), .val (.ref b20), .val (.ref b22)] [w14]))
    refine own_go (fun _ => XS.aload X26.here hx rfl (hb hby at_228) rfl r14) ?_
    show own_Go p.tables e below _ (T26.setTop (mkF m 230 #[.val (.int p1), .val (.int p2), .val (.int p3), .val (.int p4), .val w5, .val w6, .val w7, .val w8, .val w9, .val w10, .val w11, .val w12, .val w13, .val w14, .val (.ref b18), .val (.ref b20), .val (.ref b22)] [w14, w14]))
    refine own_go (fun _ => Jvm.RoadKit.acmp (g := (mkF m 230 #[.val (.int p1), .val (.int p2), .val (.int p3), .val (.int p4), .val w5, .val w6, .val w7, .val w8, .val w9, .val w10, .val w11, .val w12, .val w13, .val w14, .val (.ref b18), .val (.ref b20), .val (.ref b22)] [w14, w14])) X26 hx rfl r14 r14 (pc0 := 230) (pc' := 233) (same := true) rfl (hb hby at_230) rfl (decide_eq_true rfl) (by decide) (by decide)) ?_
    show own_Go p.tables e below _ (T26.setTop (mkF m 233 #[.val (.int p1), .val (.int p2), .val (.int p3), .val (.int p4), .val w5, .val w6, .val w7, .val w8, .val w9, .val w10, .val w11, .val w12, .val w13, .val w14, .val (.ref b18), .val (.ref b20), .val (.ref b22)] []))
    refine own_go (fun _ => XS.aload X26.here hx rfl (hb hby at_233) rfl rfl) ?_
    show own_Go p.tables e below _ (T26.setTop (mkF m 235 #[.val (.int p1), .val (.int p2), .val (.int p3), .val (.int p4), .val w5, .val w6, .val w7, .val w8, .val w9, .val w10, .val w11, .val w12, .val w13, .val w14, .val (.ref b18), .val (.ref b20), .val (.ref b22)] [(.ref b22)]))
    obtain ⟨cq27, kq27, q27a, q27b, q27c⟩ := isOf hZ e26 F22_0
    obtain ⟨v27, T27, L27, X27, hQ27, st27⟩ := own_tidyV X26 (X26.virtualBack hx (y := (⟨"com/example/attesta/attesta/contract/Malattia", "visita", "()Ljava/lang/String;"⟩ : MethodName)) (z := (⟨"com/example/attesta/attesta/contract/Malattia", "visita", "()Ljava/lang/String;"⟩ : MethodName)) hown (mvT hZ (hw _ (List.mem_of_getElem? (i := 104) rfl))) (mvT hZ (hw _ (List.mem_of_getElem? (i := 105) rfl))) (notFace_of_selects (args := #[]) (mvT hZ (hw _ (List.mem_of_getElem? (i := 107) rfl)))) (mvT hZ (hw _ (List.mem_of_getElem? (i := 107) rfl))) (mvT hZ (hw _ (List.mem_of_getElem? (i := 106) rfl))) (by decide) (backOf (W := 0) (rm16 l Z a0 hw [] b22 w9 T22.heap n0 (Nat.le_trans (Nat.le_trans (Nat.le_trans (Nat.le_trans (Nat.le_trans (Nat.le_trans (Nat.le_trans (Nat.le_trans (Nat.le_trans (Nat.le_trans (Nat.le_trans (Nat.le_trans (Nat.le_trans (Nat.le_trans (Nat.le_trans (Nat.le_trans (Nat.le_trans Z0 Kc5.1) Kc6.1) Kc7.1) Kc8.1) Kc9.1) Kc10.1) Kc11.1) Kc12.1) Kc13.1) Kc14.1) Kc16.1) Kc17.1) E18.1) Kc19.1) E20.1) Kc21.1) Kc22.1) (by first | assumption | rfl) F22_5) hZ (hw _ (List.mem_of_getElem? (i := 108) rfl)) (hw _ (List.mem_of_getElem? (i := 52) rfl)) (by decide) (by decide)) q27a q27c (g := (mkF m 235 #[.val (.int p1), .val (.int p2), .val (.int p3), .val (.int p4), .val w5, .val w6, .val w7, .val w8, .val w9, .val w10, .val w11, .val w12, .val w13, .val w14, .val (.ref b18), .val (.ref b20), .val (.ref b22)] [(.ref b22)])) rfl (by rw [hml]; rfl) (Steps.refl _) (argsL := []) (rest := []) (lenOf pd_10 rfl) rfl (by show 2 * 0 + _ ≤ _; exact Nat.le_of_eq rfl) (hb hby at_235) (fun _ _ => ⟨rfl, e26, (by decide : 39 + 0 ≤ _), (by decide : 94 + 0 ≤ _)⟩)) (c' := 39) (n' := 94) rfl rfl
    obtain ⟨rfl, N27q, e27⟩ := hQ27
    have N27 := Fr.app N26 N27q
    refine own_via st27 ?_
    show own_Go p.tables e below _ (T27.setTop (mkF m 238 #[.val (.int p1), .val (.int p2), .val (.int p3), .val (.int p4), .val w5, .val w6, .val w7, .val w8, .val w9, .val w10, .val w11, .val w12, .val w13, .val w14, .val (.ref b18), .val (.ref b20), .val (.ref b22)] [w9]))
    refine own_go (fun _ => XS.aload X27.here hx rfl (hb hby at_238) rfl r9) ?_
    show own_Go p.tables e below _ (T27.setTop (mkF m 240 #[.val (.int p1), .val (.int p2), .val (.int p3), .val (.int p4), .val w5, .val w6, .val w7, .val w8, .val w9, .val w10, .val w11, .val w12, .val w13, .val w14, .val (.ref b18), .val (.ref b20), .val (.ref b22)] [w9, w9]))
    refine own_go (fun _ => Jvm.RoadKit.acmp (g := (mkF m 240 #[.val (.int p1), .val (.int p2), .val (.int p3), .val (.int p4), .val w5, .val w6, .val w7, .val w8, .val w9, .val w10, .val w11, .val w12, .val w13, .val w14, .val (.ref b18), .val (.ref b20), .val (.ref b22)] [w9, w9])) X27 hx rfl r9 r9 (pc0 := 240) (pc' := 243) (same := true) rfl (hb hby at_240) rfl (decide_eq_true rfl) (by decide) (by decide)) ?_
    show own_Go p.tables e below _ (T27.setTop (mkF m 243 #[.val (.int p1), .val (.int p2), .val (.int p3), .val (.int p4), .val w5, .val w6, .val w7, .val w8, .val w9, .val w10, .val w11, .val w12, .val w13, .val w14, .val (.ref b18), .val (.ref b20), .val (.ref b22)] []))
    refine own_go (fun _ => XS.aload X27.here hx rfl (hb hby at_243) rfl rfl) ?_
    show own_Go p.tables e below _ (T27.setTop (mkF m 245 #[.val (.int p1), .val (.int p2), .val (.int p3), .val (.int p4), .val w5, .val w6, .val w7, .val w8, .val w9, .val w10, .val w11, .val w12, .val w13, .val w14, .val (.ref b18), .val (.ref b20), .val (.ref b22)] [(.ref b22)]))
    obtain ⟨cq28, kq28, q28a, q28b, q28c⟩ := isOf hZ e27 F22_0
    obtain ⟨v28, T28, L28, X28, hQ28, st28⟩ := own_tidyV X27 (X27.virtualBack hx (y := (⟨"com/example/attesta/attesta/contract/Malattia", "tipoCertificato", "()Ljava/lang/String;"⟩ : MethodName)) (z := (⟨"com/example/attesta/attesta/contract/Malattia", "tipoCertificato", "()Ljava/lang/String;"⟩ : MethodName)) hown (mvT hZ (hw _ (List.mem_of_getElem? (i := 109) rfl))) (mvT hZ (hw _ (List.mem_of_getElem? (i := 110) rfl))) (notFace_of_selects (args := #[]) (mvT hZ (hw _ (List.mem_of_getElem? (i := 112) rfl)))) (mvT hZ (hw _ (List.mem_of_getElem? (i := 112) rfl))) (mvT hZ (hw _ (List.mem_of_getElem? (i := 111) rfl))) (by decide) (backOf (W := 0) (rm17 l Z a0 hw [] b22 w10 T22.heap n0 (Nat.le_trans (Nat.le_trans (Nat.le_trans (Nat.le_trans (Nat.le_trans (Nat.le_trans (Nat.le_trans (Nat.le_trans (Nat.le_trans (Nat.le_trans (Nat.le_trans (Nat.le_trans (Nat.le_trans (Nat.le_trans (Nat.le_trans (Nat.le_trans (Nat.le_trans Z0 Kc5.1) Kc6.1) Kc7.1) Kc8.1) Kc9.1) Kc10.1) Kc11.1) Kc12.1) Kc13.1) Kc14.1) Kc16.1) Kc17.1) E18.1) Kc19.1) E20.1) Kc21.1) Kc22.1) (by first | assumption | rfl) F22_6) hZ (hw _ (List.mem_of_getElem? (i := 113) rfl)) (hw _ (List.mem_of_getElem? (i := 52) rfl)) (by decide) (by decide)) q28a q28c (g := (mkF m 245 #[.val (.int p1), .val (.int p2), .val (.int p3), .val (.int p4), .val w5, .val w6, .val w7, .val w8, .val w9, .val w10, .val w11, .val w12, .val w13, .val w14, .val (.ref b18), .val (.ref b20), .val (.ref b22)] [(.ref b22)])) rfl (by rw [hml]; rfl) (Steps.refl _) (argsL := []) (rest := []) (lenOf pd_10 rfl) rfl (by show 2 * 0 + _ ≤ _; exact Nat.le_of_eq rfl) (hb hby at_245) (fun _ _ => ⟨rfl, e27, (by decide : 39 + 0 ≤ _), (by decide : 94 + 0 ≤ _)⟩)) (c' := 39) (n' := 94) rfl rfl
    obtain ⟨rfl, N28q, e28⟩ := hQ28
    have N28 := Fr.app N27 N28q
    refine own_via st28 ?_
    show own_Go p.tables e below _ (T28.setTop (mkF m 248 #[.val (.int p1), .val (.int p2), .val (.int p3), .val (.int p4), .val w5, .val w6, .val w7, .val w8, .val w9, .val w10, .val w11, .val w12, .val w13, .val w14, .val (.ref b18), .val (.ref b20), .val (.ref b22)] [w10]))
    refine own_go (fun _ => XS.aload X28.here hx rfl (hb hby at_248) rfl r10) ?_
    show own_Go p.tables e below _ (T28.setTop (mkF m 250 #[.val (.int p1), .val (.int p2), .val (.int p3), .val (.int p4), .val w5, .val w6, .val w7, .val w8, .val w9, .val w10, .val w11, .val w12, .val w13, .val w14, .val (.ref b18), .val (.ref b20), .val (.ref b22)] [w10, w10]))
    refine own_go (fun _ => Jvm.RoadKit.acmp (g := (mkF m 250 #[.val (.int p1), .val (.int p2), .val (.int p3), .val (.int p4), .val w5, .val w6, .val w7, .val w8, .val w9, .val w10, .val w11, .val w12, .val w13, .val w14, .val (.ref b18), .val (.ref b20), .val (.ref b22)] [w10, w10])) X28 hx rfl r10 r10 (pc0 := 250) (pc' := 253) (same := true) rfl (hb hby at_250) rfl (decide_eq_true rfl) (by decide) (by decide)) ?_
    show own_Go p.tables e below _ (T28.setTop (mkF m 253 #[.val (.int p1), .val (.int p2), .val (.int p3), .val (.int p4), .val w5, .val w6, .val w7, .val w8, .val w9, .val w10, .val w11, .val w12, .val w13, .val w14, .val (.ref b18), .val (.ref b20), .val (.ref b22)] []))
    refine own_go (fun _ => XS.aload X28.here hx rfl (hb hby at_253) rfl rfl) ?_
    show own_Go p.tables e below _ (T28.setTop (mkF m 255 #[.val (.int p1), .val (.int p2), .val (.int p3), .val (.int p4), .val w5, .val w6, .val w7, .val w8, .val w9, .val w10, .val w11, .val w12, .val w13, .val w14, .val (.ref b18), .val (.ref b20), .val (.ref b22)] [(.ref b22)]))
    obtain ⟨cq29, kq29, q29a, q29b, q29c⟩ := isOf hZ e28 F22_0
    obtain ⟨v29, T29, L29, X29, hQ29, st29⟩ := own_tidyV X28 (X28.virtualBack hx (y := (⟨"com/example/attesta/attesta/contract/Malattia", "diagnosi", "()Lcom/example/attesta/attesta/contract/Diagnosi;"⟩ : MethodName)) (z := (⟨"com/example/attesta/attesta/contract/Malattia", "diagnosi", "()Lcom/example/attesta/attesta/contract/Diagnosi;"⟩ : MethodName)) hown (mvT hZ (hw _ (List.mem_of_getElem? (i := 114) rfl))) (mvT hZ (hw _ (List.mem_of_getElem? (i := 115) rfl))) (notFace_of_selects (args := #[]) (mvT hZ (hw _ (List.mem_of_getElem? (i := 117) rfl)))) (mvT hZ (hw _ (List.mem_of_getElem? (i := 117) rfl))) (mvT hZ (hw _ (List.mem_of_getElem? (i := 116) rfl))) (by decide) (backOf (W := 0) (rm18 l Z a0 hw [] b22 (.ref b18) T22.heap n0 (Nat.le_trans (Nat.le_trans (Nat.le_trans (Nat.le_trans (Nat.le_trans (Nat.le_trans (Nat.le_trans (Nat.le_trans (Nat.le_trans (Nat.le_trans (Nat.le_trans (Nat.le_trans (Nat.le_trans (Nat.le_trans (Nat.le_trans (Nat.le_trans (Nat.le_trans Z0 Kc5.1) Kc6.1) Kc7.1) Kc8.1) Kc9.1) Kc10.1) Kc11.1) Kc12.1) Kc13.1) Kc14.1) Kc16.1) Kc17.1) E18.1) Kc19.1) E20.1) Kc21.1) Kc22.1) (by first | assumption | rfl) F22_7) hZ (hw _ (List.mem_of_getElem? (i := 118) rfl)) (hw _ (List.mem_of_getElem? (i := 52) rfl)) (by decide) (by decide)) q29a q29c (g := (mkF m 255 #[.val (.int p1), .val (.int p2), .val (.int p3), .val (.int p4), .val w5, .val w6, .val w7, .val w8, .val w9, .val w10, .val w11, .val w12, .val w13, .val w14, .val (.ref b18), .val (.ref b20), .val (.ref b22)] [(.ref b22)])) rfl (by rw [hml]; rfl) (Steps.refl _) (argsL := []) (rest := []) (lenOf pd_11 rfl) rfl (by show 2 * 0 + _ ≤ _; exact Nat.le_of_eq rfl) (hb hby at_255) (fun _ _ => ⟨rfl, e28, (by decide : 39 + 0 ≤ _), (by decide : 94 + 0 ≤ _)⟩)) (c' := 39) (n' := 94) rfl rfl
    obtain ⟨rfl, N29q, e29⟩ := hQ29
    have N29 := Fr.app N28 N29q
    refine own_via st29 ?_
    show own_Go p.tables e below _ (T29.setTop (mkF m 258 #[.val (.int p1), .val (.int p2), .val (.int p3), .val (.int p4), .val w5, .val w6, .val w7, .val w8, .val w9, .val w10, .val w11, .val w12, .val w13, .val w14, .val (.ref b18), .val (.ref b20), .val (.ref b22)] [(.ref b18)]))
    refine own_go (fun _ => XS.aload X29.here hx rfl (hb hby at_258) rfl rfl) ?_
    show own_Go p.tables e below _ (T29.setTop (mkF m 260 #[.val (.int p1), .val (.int p2), .val (.int p3), .val (.int p4), .val w5, .val w6, .val w7, .val w8, .val w9, .val w10, .val w11, .val w12, .val w13, .val w14, .val (.ref b18), .val (.ref b20), .val (.ref b22)] [(.ref b18), (.ref b18)]))
    refine own_go (fun _ => Jvm.RoadKit.acmp (g := (mkF m 260 #[.val (.int p1), .val (.int p2), .val (.int p3), .val (.int p4), .val w5, .val w6, .val w7, .val w8, .val w9, .val w10, .val w11, .val w12, .val w13, .val w14, .val (.ref b18), .val (.ref b20), .val (.ref b22)] [(.ref b18), (.ref b18)])) X29 hx rfl rfl rfl (pc0 := 260) (pc' := 263) (same := true) rfl (hb hby at_260) rfl (decide_eq_true rfl) (by decide) (by decide)) ?_
    show own_Go p.tables e below _ (T29.setTop (mkF m 263 #[.val (.int p1), .val (.int p2), .val (.int p3), .val (.int p4), .val w5, .val w6, .val w7, .val w8, .val w9, .val w10, .val w11, .val w12, .val w13, .val w14, .val (.ref b18), .val (.ref b20), .val (.ref b22)] []))
    refine own_go (fun _ => XS.aload X29.here hx rfl (hb hby at_263) rfl rfl) ?_
    show own_Go p.tables e below _ (T29.setTop (mkF m 265 #[.val (.int p1), .val (.int p2), .val (.int p3), .val (.int p4), .val w5, .val w6, .val w7, .val w8, .val w9, .val w10, .val w11, .val w12, .val w13, .val w14, .val (.ref b18), .val (.ref b20), .val (.ref b22)] [(.ref b22)]))
    obtain ⟨cq30, kq30, q30a, q30b, q30c⟩ := isOf hZ e29 F22_0
    obtain ⟨v30, T30, L30, X30, hQ30, st30⟩ := own_tidyV X29 (X29.virtualBack hx (y := (⟨"com/example/attesta/attesta/contract/Malattia", "giornataLavorata", "()Ljava/lang/String;"⟩ : MethodName)) (z := (⟨"com/example/attesta/attesta/contract/Malattia", "giornataLavorata", "()Ljava/lang/String;"⟩ : MethodName)) hown (mvT hZ (hw _ (List.mem_of_getElem? (i := 119) rfl))) (mvT hZ (hw _ (List.mem_of_getElem? (i := 120) rfl))) (notFace_of_selects (args := #[]) (mvT hZ (hw _ (List.mem_of_getElem? (i := 122) rfl)))) (mvT hZ (hw _ (List.mem_of_getElem? (i := 122) rfl))) (mvT hZ (hw _ (List.mem_of_getElem? (i := 121) rfl))) (by decide) (backOf (W := 0) (rm19 l Z a0 hw [] b22 w11 T22.heap n0 (Nat.le_trans (Nat.le_trans (Nat.le_trans (Nat.le_trans (Nat.le_trans (Nat.le_trans (Nat.le_trans (Nat.le_trans (Nat.le_trans (Nat.le_trans (Nat.le_trans (Nat.le_trans (Nat.le_trans (Nat.le_trans (Nat.le_trans (Nat.le_trans (Nat.le_trans Z0 Kc5.1) Kc6.1) Kc7.1) Kc8.1) Kc9.1) Kc10.1) Kc11.1) Kc12.1) Kc13.1) Kc14.1) Kc16.1) Kc17.1) E18.1) Kc19.1) E20.1) Kc21.1) Kc22.1) (by first | assumption | rfl) F22_8) hZ (hw _ (List.mem_of_getElem? (i := 123) rfl)) (hw _ (List.mem_of_getElem? (i := 52) rfl)) (by decide) (by decide)) q30a q30c (g := (mkF m 265 #[.val (.int p1), .val (.int p2), .val (.int p3), .val (.int p4), .val w5, .val w6, .val w7, .val w8, .val w9, .val w10, .val w11, .val w12, .val w13, .val w14, .val (.ref b18), .val (.ref b20), .val (.ref b22)] [(.ref b22)])) rfl (by rw [hml]; rfl) (Steps.refl _) (argsL := []) (rest := []) (lenOf pd_10 rfl) rfl (by show 2 * 0 + _ ≤ _; exact Nat.le_of_eq rfl) (hb hby at_265) (fun _ _ => ⟨rfl, e29, (by decide : 39 + 0 ≤ _), (by decide : 94 + 0 ≤ _)⟩)) (c' := 39) (n' := 94) rfl rfl
    obtain ⟨rfl, N30q, e30⟩ := hQ30
    have N30 := Fr.app N29 N30q
    refine own_via st30 ?_
    show own_Go p.tables e below _ (T30.setTop (mkF m 268 #[.val (.int p1), .val (.int p2), .val (.int p3), .val (.int p4), .val w5, .val w6, .val w7, .val w8, .val w9, .val w10, .val w11, .val w12, .val w13, .val w14, .val (.ref b18), .val (.ref b20), .val (.ref b22)] [w11]))
    refine own_go (fun _ => XS.aload X30.here hx rfl (hb hby at_268) rfl r11) ?_
    show own_Go p.tables e below _ (T30.setTop (mkF m 270 #[.val (.int p1), .val (.int p2), .val (.int p3), .val (.int p4), .val w5, .val w6, .val w7, .val w8, .val w9, .val w10, .val w11, .val w12, .val w13, .val w14, .val (.ref b18), .val (.ref b20), .val (.ref b22)] [w11, w11]))
    refine own_go (fun _ => Jvm.RoadKit.acmp (g := (mkF m 270 #[.val (.int p1), .val (.int p2), .val (.int p3), .val (.int p4), .val w5, .val w6, .val w7, .val w8, .val w9, .val w10, .val w11, .val w12, .val w13, .val w14, .val (.ref b18), .val (.ref b20), .val (.ref b22)] [w11, w11])) X30 hx rfl r11 r11 (pc0 := 270) (pc' := 273) (same := true) rfl (hb hby at_270) rfl (decide_eq_true rfl) (by decide) (by decide)) ?_
    show own_Go p.tables e below _ (T30.setTop (mkF m 273 #[.val (.int p1), .val (.int p2), .val (.int p3), .val (.int p4), .val w5, .val w6, .val w7, .val w8, .val w9, .val w10, .val w11, .val w12, .val w13, .val w14, .val (.ref b18), .val (.ref b20), .val (.ref b22)] []))
    refine own_go (fun _ => XS.aload X30.here hx rfl (hb hby at_273) rfl rfl) ?_
    show own_Go p.tables e below _ (T30.setTop (mkF m 275 #[.val (.int p1), .val (.int p2), .val (.int p3), .val (.int p4), .val w5, .val w6, .val w7, .val w8, .val w9, .val w10, .val w11, .val w12, .val w13, .val w14, .val (.ref b18), .val (.ref b20), .val (.ref b22)] [(.ref b22)]))
    obtain ⟨cq31, kq31, q31a, q31b, q31c⟩ := isOf hZ e30 F22_0
    obtain ⟨v31, T31, L31, X31, hQ31, st31⟩ := own_tidyV X30 (X30.virtualBack hx (y := (⟨"com/example/attesta/attesta/contract/Malattia", "trauma", "()Ljava/lang/String;"⟩ : MethodName)) (z := (⟨"com/example/attesta/attesta/contract/Malattia", "trauma", "()Ljava/lang/String;"⟩ : MethodName)) hown (mvT hZ (hw _ (List.mem_of_getElem? (i := 124) rfl))) (mvT hZ (hw _ (List.mem_of_getElem? (i := 125) rfl))) (notFace_of_selects (args := #[]) (mvT hZ (hw _ (List.mem_of_getElem? (i := 127) rfl)))) (mvT hZ (hw _ (List.mem_of_getElem? (i := 127) rfl))) (mvT hZ (hw _ (List.mem_of_getElem? (i := 126) rfl))) (by decide) (backOf (W := 0) (rm20 l Z a0 hw [] b22 w12 T22.heap n0 (Nat.le_trans (Nat.le_trans (Nat.le_trans (Nat.le_trans (Nat.le_trans (Nat.le_trans (Nat.le_trans (Nat.le_trans (Nat.le_trans (Nat.le_trans (Nat.le_trans (Nat.le_trans (Nat.le_trans (Nat.le_trans (Nat.le_trans (Nat.le_trans (Nat.le_trans Z0 Kc5.1) Kc6.1) Kc7.1) Kc8.1) Kc9.1) Kc10.1) Kc11.1) Kc12.1) Kc13.1) Kc14.1) Kc16.1) Kc17.1) E18.1) Kc19.1) E20.1) Kc21.1) Kc22.1) (by first | assumption | rfl) F22_9) hZ (hw _ (List.mem_of_getElem? (i := 128) rfl)) (hw _ (List.mem_of_getElem? (i := 52) rfl)) (by decide) (by decide)) q31a q31c (g := (mkF m 275 #[.val (.int p1), .val (.int p2), .val (.int p3), .val (.int p4), .val w5, .val w6, .val w7, .val w8, .val w9, .val w10, .val w11, .val w12, .val w13, .val w14, .val (.ref b18), .val (.ref b20), .val (.ref b22)] [(.ref b22)])) rfl (by rw [hml]; rfl) (Steps.refl _) (argsL := []) (rest := []) (lenOf pd_10 rfl) rfl (by show 2 * 0 + _ ≤ _; exact Nat.le_of_eq rfl) (hb hby at_275) (fun _ _ => ⟨rfl, e30, (by decide : 39 + 0 ≤ _), (by decide : 94 + 0 ≤ _)⟩)) (c' := 39) (n' := 94) rfl rfl
    obtain ⟨rfl, N31q, e31⟩ := hQ31
    have N31 := Fr.app N30 N31q
    refine own_via st31 ?_
    show own_Go p.tables e below _ (T31.setTop (mkF m 278 #[.val (.int p1), .val (.int p2), .val (.int p3), .val (.int p4), .val w5, .val w6, .val w7, .val w8, .val w9, .val w10, .val w11, .val w12, .val w13, .val w14, .val (.ref b18), .val (.ref b20), .val (.ref b22)] [w12]))
    refine own_go (fun _ => XS.aload X31.here hx rfl (hb hby at_278) rfl r12) ?_
    show own_Go p.tables e below _ (T31.setTop (mkF m 280 #[.val (.int p1), .val (.int p2), .val (.int p3), .val (.int p4), .val w5, .val w6, .val w7, .val w8, .val w9, .val w10, .val w11, .val w12, .val w13, .val w14, .val (.ref b18), .val (.ref b20), .val (.ref b22)] [w12, w12]))
    refine own_go (fun _ => Jvm.RoadKit.acmp (g := (mkF m 280 #[.val (.int p1), .val (.int p2), .val (.int p3), .val (.int p4), .val w5, .val w6, .val w7, .val w8, .val w9, .val w10, .val w11, .val w12, .val w13, .val w14, .val (.ref b18), .val (.ref b20), .val (.ref b22)] [w12, w12])) X31 hx rfl r12 r12 (pc0 := 280) (pc' := 283) (same := true) rfl (hb hby at_280) rfl (decide_eq_true rfl) (by decide) (by decide)) ?_
    show own_Go p.tables e below _ (T31.setTop (mkF m 283 #[.val (.int p1), .val (.int p2), .val (.int p3), .val (.int p4), .val w5, .val w6, .val w7, .val w8, .val w9, .val w10, .val w11, .val w12, .val w13, .val w14, .val (.ref b18), .val (.ref b20), .val (.ref b22)] []))
    refine own_go (fun _ => XS.aload X31.here hx rfl (hb hby at_283) rfl rfl) ?_
    show own_Go p.tables e below _ (T31.setTop (mkF m 285 #[.val (.int p1), .val (.int p2), .val (.int p3), .val (.int p4), .val w5, .val w6, .val w7, .val w8, .val w9, .val w10, .val w11, .val w12, .val w13, .val w14, .val (.ref b18), .val (.ref b20), .val (.ref b22)] [(.ref b22)]))
    obtain ⟨cq32, kq32, q32a, q32b, q32c⟩ := isOf hZ e31 F22_0
    obtain ⟨v32, T32, L32, X32, hQ32, st32⟩ := own_tidyV X31 (X31.virtualBack hx (y := (⟨"com/example/attesta/attesta/contract/Malattia", "agevolazioni", "()Ljava/lang/String;"⟩ : MethodName)) (z := (⟨"com/example/attesta/attesta/contract/Malattia", "agevolazioni", "()Ljava/lang/String;"⟩ : MethodName)) hown (mvT hZ (hw _ (List.mem_of_getElem? (i := 129) rfl))) (mvT hZ (hw _ (List.mem_of_getElem? (i := 130) rfl))) (notFace_of_selects (args := #[]) (mvT hZ (hw _ (List.mem_of_getElem? (i := 132) rfl)))) (mvT hZ (hw _ (List.mem_of_getElem? (i := 132) rfl))) (mvT hZ (hw _ (List.mem_of_getElem? (i := 131) rfl))) (by decide) (backOf (W := 0) (rm21 l Z a0 hw [] b22 w13 T22.heap n0 (Nat.le_trans (Nat.le_trans (Nat.le_trans (Nat.le_trans (Nat.le_trans (Nat.le_trans (Nat.le_trans (Nat.le_trans (Nat.le_trans (Nat.le_trans (Nat.le_trans (Nat.le_trans (Nat.le_trans (Nat.le_trans (Nat.le_trans (Nat.le_trans (Nat.le_trans Z0 Kc5.1) Kc6.1) Kc7.1) Kc8.1) Kc9.1) Kc10.1) Kc11.1) Kc12.1) Kc13.1) Kc14.1) Kc16.1) Kc17.1) E18.1) Kc19.1) E20.1) Kc21.1) Kc22.1) (by first | assumption | rfl) F22_10) hZ (hw _ (List.mem_of_getElem? (i := 133) rfl)) (hw _ (List.mem_of_getElem? (i := 52) rfl)) (by decide) (by decide)) q32a q32c (g := (mkF m 285 #[.val (.int p1), .val (.int p2), .val (.int p3), .val (.int p4), .val w5, .val w6, .val w7, .val w8, .val w9, .val w10, .val w11, .val w12, .val w13, .val w14, .val (.ref b18), .val (.ref b20), .val (.ref b22)] [(.ref b22)])) rfl (by rw [hml]; rfl) (Steps.refl _) (argsL := []) (rest := []) (lenOf pd_10 rfl) rfl (by show 2 * 0 + _ ≤ _; exact Nat.le_of_eq rfl) (hb hby at_285) (fun _ _ => ⟨rfl, e31, (by decide : 39 + 0 ≤ _), (by decide : 94 + 0 ≤ _)⟩)) (c' := 39) (n' := 94) rfl rfl
    obtain ⟨rfl, N32q, e32⟩ := hQ32
    have N32 := Fr.app N31 N32q
    refine own_via st32 ?_
    show own_Go p.tables e below _ (T32.setTop (mkF m 288 #[.val (.int p1), .val (.int p2), .val (.int p3), .val (.int p4), .val w5, .val w6, .val w7, .val w8, .val w9, .val w10, .val w11, .val w12, .val w13, .val w14, .val (.ref b18), .val (.ref b20), .val (.ref b22)] [w13]))
    refine own_go (fun _ => XS.aload X32.here hx rfl (hb hby at_288) rfl r13) ?_
    show own_Go p.tables e below _ (T32.setTop (mkF m 290 #[.val (.int p1), .val (.int p2), .val (.int p3), .val (.int p4), .val w5, .val w6, .val w7, .val w8, .val w9, .val w10, .val w11, .val w12, .val w13, .val w14, .val (.ref b18), .val (.ref b20), .val (.ref b22)] [w13, w13]))
    refine own_go (fun _ => Jvm.RoadKit.acmp (g := (mkF m 290 #[.val (.int p1), .val (.int p2), .val (.int p3), .val (.int p4), .val w5, .val w6, .val w7, .val w8, .val w9, .val w10, .val w11, .val w12, .val w13, .val w14, .val (.ref b18), .val (.ref b20), .val (.ref b22)] [w13, w13])) X32 hx rfl r13 r13 (pc0 := 290) (pc' := 293) (same := true) rfl (hb hby at_290) rfl (decide_eq_true rfl) (by decide) (by decide)) ?_
    show own_Go p.tables e below _ (T32.setTop (mkF m 293 #[.val (.int p1), .val (.int p2), .val (.int p3), .val (.int p4), .val w5, .val w6, .val w7, .val w8, .val w9, .val w10, .val w11, .val w12, .val w13, .val w14, .val (.ref b18), .val (.ref b20), .val (.ref b22)] []))
    refine own_go (fun _ => XS.iconst X32.here hx rfl (hb hby at_293)) ?_
    show own_Go p.tables e below _ (T32.setTop (mkF m 294 #[.val (.int p1), .val (.int p2), .val (.int p3), .val (.int p4), .val w5, .val w6, .val w7, .val w8, .val w9, .val w10, .val w11, .val w12, .val w13, .val w14, .val (.ref b18), .val (.ref b20), .val (.ref b22)] [(.int (1 : Int32))]))
    refine own_go (fun _ => XS.goto X32.here hx rfl (pc0 := 294) (pc' := 298) rfl (hb hby at_294) (by decide) (by decide)) ?_
    show own_Go p.tables e below _ (T32.setTop (mkF m 298 #[.val (.int p1), .val (.int p2), .val (.int p3), .val (.int p4), .val w5, .val w6, .val w7, .val w8, .val w9, .val w10, .val w11, .val w12, .val w13, .val w14, .val (.ref b18), .val (.ref b20), .val (.ref b22)] [(.int (1 : Int32))]))
    refine own_retN X32 Bd.notSynchronized hx (t := .boolean) Bd.returns (by simp) (hb hby at_298) (show Q0 Z p1 p2 p3 p4 csz h0 n0 _ T32.heap _ from by rw [e32]; exact ⟨rfl, N32⟩) (by decide) (by decide)
  · skip
    refine own_go (fun _ => XS.ifYes X14.here hx rfl (pc0 := 110) (pc' := 148) rfl (hb hby at_110) rfl ((if0 _ _).trans (feq hc15_110).2) (by decide) (by decide)) ?_
    show own_Go p.tables e below _ (T14.setTop (mkF m 148 #[.val (.int p1), .val (.int p2), .val (.int p3), .val (.int p4), .val w5, .val w6, .val w7, .val w8, .val w9, .val w10, .val w11, .val w12, .val w13, .val w14, .val .null, .unset, .unset] []))
    obtain ⟨T33, h33, X33, e33, E33, A33, D33, -, st33⟩ := newO X14 hx hZ hown (hw _ (List.mem_of_getElem? (i := 50) rfl)) (hw _ (List.mem_of_getElem? (i := 51) rfl)) (hw _ (List.mem_of_getElem? (i := 52) rfl)) rfl (g := (mkF m 148 #[.val (.int p1), .val (.int p2), .val (.int p3), .val (.int p4), .val w5, .val w6, .val w7, .val w8, .val w9, .val w10, .val w11, .val w12, .val w13, .val w14, .val .null, .unset, .unset] [])) rfl (hb hby at_148) (by decide) (by decide)
    obtain ⟨b33, g33⟩ : ∃ z, z = T14.heap.size := ⟨_, rfl⟩
    rw [← g33] at A33 D33 st33
    refine own_go st33 ?_
    have g_b33 : n0 ≤ b33 := Nat.le_trans (Nat.le_trans (Nat.le_trans (Nat.le_trans (Nat.le_trans (Nat.le_trans (Nat.le_trans (Nat.le_trans (Nat.le_trans (Nat.le_trans (Nat.le_trans Z0 Kc5.1) Kc6.1) Kc7.1) Kc8.1) Kc9.1) Kc10.1) Kc11.1) Kc12.1) Kc13.1) Kc14.1) (Nat.le_of_eq g33.symm)
    have sz_b33 : h0.size ≤ b33 := (Nat.le_trans K14.1 (Nat.le_of_eq g33.symm))
    have K33 : Keep h0 h33 [] := K14.ext E33
    have F_ruoloMedico_b33 : Fld Z h33 b33 "com/example/attesta/attesta/contract/Malattia" "ruoloMedico" "Ljava/lang/String;" .null := D33 (Or.inr (hw _ (List.mem_of_getElem? (i := 58) rfl))) (ty := (.object "java/lang/String")) (by decide)
    have F_dataRilascio_b33 : Fld Z h33 b33 "com/example/attesta/attesta/contract/Malattia" "dataRilascio" "Ljava/lang/String;" .null := D33 (Or.inr (hw _ (List.mem_of_getElem? (i := 60) rfl))) (ty := (.object "java/lang/String")) (by decide)
    have F_dataInizio_b33 : Fld Z h33 b33 "com/example/attesta/attesta/contract/Malattia" "dataInizio" "Ljava/lang/String;" .null := D33 (Or.inr (hw _ (List.mem_of_getElem? (i := 62) rfl))) (ty := (.object "java/lang/String")) (by decide)
    have F_dataFine_b33 : Fld Z h33 b33 "com/example/attesta/attesta/contract/Malattia" "dataFine" "Ljava/lang/String;" .null := D33 (Or.inr (hw _ (List.mem_of_getElem? (i := 64) rfl))) (ty := (.object "java/lang/String")) (by decide)
    have F_visita_b33 : Fld Z h33 b33 "com/example/attesta/attesta/contract/Malattia" "visita" "Ljava/lang/String;" .null := D33 (Or.inr (hw _ (List.mem_of_getElem? (i := 66) rfl))) (ty := (.object "java/lang/String")) (by decide)
    have F_tipoCertificato_b33 : Fld Z h33 b33 "com/example/attesta/attesta/contract/Malattia" "tipoCertificato" "Ljava/lang/String;" .null := D33 (Or.inr (hw _ (List.mem_of_getElem? (i := 68) rfl))) (ty := (.object "java/lang/String")) (by decide)
    have F_diagnosi_b33 : Fld Z h33 b33 "com/example/attesta/attesta/contract/Malattia" "diagnosi" "Lcom/example/attesta/attesta/contract/Diagnosi;" .null := D33 (Or.inr (hw _ (List.mem_of_getElem? (i := 70) rfl))) (ty := (.object "com/example/attesta/attesta/contract/Diagnosi")) (by decide)
    have F_giornataLavorata_b33 : Fld Z h33 b33 "com/example/attesta/attesta/contract/Malattia" "giornataLavorata" "Ljava/lang/String;" .null := D33 (Or.inr (hw _ (List.mem_of_getElem? (i := 72) rfl))) (ty := (.object "java/lang/String")) (by decide)
    have F_trauma_b33 : Fld Z h33 b33 "com/example/attesta/attesta/contract/Malattia" "trauma" "Ljava/lang/String;" .null := D33 (Or.inr (hw _ (List.mem_of_getElem? (i := 74) rfl))) (ty := (.object "java/lang/String")) (by decide)
    have F_agevolazioni_b33 : Fld Z h33 b33 "com/example/attesta/attesta/contract/Malattia" "agevolazioni" "Ljava/lang/String;" .null := D33 (Or.inr (hw _ (List.mem_of_getElem? (i := 76) rfl))) (ty := (.object "java/lang/String")) (by decide)
    show own_Go p.tables e below _ (T33.setTop (mkF m 151 #[.val (.int p1), .val (.int p2), .val (.int p3), .val (.int p4), .val w5, .val w6, .val w7, .val w8, .val w9, .val w10, .val w11, .val w12, .val w13, .val w14, .val .null, .unset, .unset] [(.ref b33)]))
    refine own_go (fun _ => XS.dup X33.here hx rfl (hb hby at_151) rfl rfl) ?_
    show own_Go p.tables e below _ (T33.setTop (mkF m 152 #[.val (.int p1), .val (.int p2), .val (.int p3), .val (.int p4), .val w5, .val w6, .val w7, .val w8, .val w9, .val w10, .val w11, .val w12, .val w13, .val w14, .val .null, .unset, .unset] [(.ref b33), (.ref b33)]))
    refine own_go (fun _ => XS.aload X33.here hx rfl (hb hby at_152) rfl r5) ?_
    show own_Go p.tables e below _ (T33.setTop (mkF m 154 #[.val (.int p1), .val (.int p2), .val (.int p3), .val (.int p4), .val w5, .val w6, .val w7, .val w8, .val w9, .val w10, .val w11, .val w12, .val w13, .val w14, .val .null, .unset, .unset] [w5, (.ref b33), (.ref b33)]))
    refine own_go (fun _ => XS.aload X33.here hx rfl (hb hby at_154) rfl r6) ?_
    show own_Go p.tables e below _ (T33.setTop (mkF m 156 #[.val (.int p1), .val (.int p2), .val (.int p3), .val (.int p4), .val w5, .val w6, .val w7, .val w8, .val w9, .val w10, .val w11, .val w12, .val w13, .val w14, .val .null, .unset, .unset] [w6, w5, (.ref b33), (.ref b33)]))
    refine own_go (fun _ => XS.aload X33.here hx rfl (hb hby at_156) rfl r7) ?_
    show own_Go p.tables e below _ (T33.setTop (mkF m 158 #[.val (.int p1), .val (.int p2), .val (.int p3), .val (.int p4), .val w5, .val w6, .val w7, .val w8, .val w9, .val w10, .val w11, .val w12, .val w13, .val w14, .val .null, .unset, .unset] [w7, w6, w5, (.ref b33), (.ref b33)]))
    refine own_go (fun _ => XS.aload X33.here hx rfl (hb hby at_158) rfl r8) ?_
    show own_Go p.tables e below _ (T33.setTop (mkF m 160 #[.val (.int p1), .val (.int p2), .val (.int p3), .val (.int p4), .val w5, .val w6, .val w7, .val w8, .val w9, .val w10, .val w11, .val w12, .val w13, .val w14, .val .null, .unset, .unset] [w8, w7, w6, w5, (.ref b33), (.ref b33)]))
    refine own_go (fun _ => XS.aload X33.here hx rfl (hb hby at_160) rfl r9) ?_
    show own_Go p.tables e below _ (T33.setTop (mkF m 162 #[.val (.int p1), .val (.int p2), .val (.int p3), .val (.int p4), .val w5, .val w6, .val w7, .val w8, .val w9, .val w10, .val w11, .val w12, .val w13, .val w14, .val .null, .unset, .unset] [w9, w8, w7, w6, w5, (.ref b33), (.ref b33)]))
    refine own_go (fun _ => XS.aload X33.here hx rfl (hb hby at_162) rfl r10) ?_
    show own_Go p.tables e below _ (T33.setTop (mkF m 164 #[.val (.int p1), .val (.int p2), .val (.int p3), .val (.int p4), .val w5, .val w6, .val w7, .val w8, .val w9, .val w10, .val w11, .val w12, .val w13, .val w14, .val .null, .unset, .unset] [w10, w9, w8, w7, w6, w5, (.ref b33), (.ref b33)]))
    refine own_go (fun _ => XS.aload X33.here hx rfl (hb hby at_164) rfl rfl) ?_
    show own_Go p.tables e below _ (T33.setTop (mkF m 166 #[.val (.int p1), .val (.int p2), .val (.int p3), .val (.int p4), .val w5, .val w6, .val w7, .val w8, .val w9, .val w10, .val w11, .val w12, .val w13, .val w14, .val .null, .unset, .unset] [.null, w10, w9, w8, w7, w6, w5, (.ref b33), (.ref b33)]))
    refine own_go (fun _ => XS.aload X33.here hx rfl (hb hby at_166) rfl r11) ?_
    show own_Go p.tables e below _ (T33.setTop (mkF m 168 #[.val (.int p1), .val (.int p2), .val (.int p3), .val (.int p4), .val w5, .val w6, .val w7, .val w8, .val w9, .val w10, .val w11, .val w12, .val w13, .val w14, .val .null, .unset, .unset] [w11, .null, w10, w9, w8, w7, w6, w5, (.ref b33), (.ref b33)]))
    refine own_go (fun _ => XS.aload X33.here hx rfl (hb hby at_168) rfl r12) ?_
    show own_Go p.tables e below _ (T33.setTop (mkF m 170 #[.val (.int p1), .val (.int p2), .val (.int p3), .val (.int p4), .val w5, .val w6, .val w7, .val w8, .val w9, .val w10, .val w11, .val w12, .val w13, .val w14, .val .null, .unset, .unset] [w12, w11, .null, w10, w9, w8, w7, w6, w5, (.ref b33), (.ref b33)]))
    refine own_go (fun _ => XS.aload X33.here hx rfl (hb hby at_170) rfl r13) ?_
    show own_Go p.tables e below _ (T33.setTop (mkF m 172 #[.val (.int p1), .val (.int p2), .val (.int p3), .val (.int p4), .val w5, .val w6, .val w7, .val w8, .val w9, .val w10, .val w11, .val w12, .val w13, .val w14, .val .null, .unset, .unset] [w13, w12, w11, .null, w10, w9, w8, w7, w6, w5, (.ref b33), (.ref b33)]))
    obtain ⟨v34, T34, L34, X34, hQ34, st34⟩ := own_tidyV X33 (X33.specialBack hx (y := (⟨"com/example/attesta/attesta/contract/Malattia", "<init>", "(Ljava/lang/String;Ljava/lang/String;Ljava/lang/String;Ljava/lang/String;Ljava/lang/String;Ljava/lang/String;Lcom/example/attesta/attesta/contract/Diagnosi;Ljava/lang/String;Ljava/lang/String;Ljava/lang/String;)V"⟩ : MethodName)) rfl hown (mvT hZ (hw _ (List.mem_of_getElem? (i := 53) rfl))) (mvT hZ (hw _ (List.mem_of_getElem? (i := 54) rfl))) (mvT hZ (hw _ (List.mem_of_getElem? (i := 55) rfl))) (by decide) (backOf (W := 1) (rm10 l Z a0 hw [] b33 w5 w6 w7 w8 w9 w10 .null w11 w12 w13 .null .null .null .null .null .null .null .null .null .null h33 n0 (Nat.le_trans (Nat.le_trans (Nat.le_trans (Nat.le_trans (Nat.le_trans (Nat.le_trans (Nat.le_trans (Nat.le_trans (Nat.le_trans (Nat.le_trans (Nat.le_trans Z0 Kc5.1) Kc6.1) Kc7.1) Kc8.1) Kc9.1) Kc10.1) Kc11.1) Kc12.1) Kc13.1) Kc14.1) E33.1) (by first | assumption | rfl) (by first | assumption | rfl) (by first | assumption | rfl) (by first | assumption | rfl) (by first | assumption | rfl) (by first | assumption | rfl) (by first | assumption | rfl) (by first | assumption | rfl) (by first | assumption | rfl) (by first | assumption | rfl) A33 F_ruoloMedico_b33 g_b33 F_dataRilascio_b33 F_dataInizio_b33 F_dataFine_b33 F_visita_b33 F_tipoCertificato_b33 F_diagnosi_b33 F_giornataLavorata_b33 F_trauma_b33 F_agevolazioni_b33) hZ (hw _ (List.mem_of_getElem? (i := 55) rfl)) (hw _ (List.mem_of_getElem? (i := 52) rfl)) (by decide) (by decide)) (g := (mkF m 172 #[.val (.int p1), .val (.int p2), .val (.int p3), .val (.int p4), .val w5, .val w6, .val w7, .val w8, .val w9, .val w10, .val w11, .val w12, .val w13, .val w14, .val .null, .unset, .unset] [w13, w12, w11, .null, w10, w9, w8, w7, w6, w5, (.ref b33), (.ref b33)])) rfl (by rw [hml]; rfl) (Steps.refl _) (a := b33) (argsL := [w5, w6, w7, w8, w9, w10, .null, w11, w12, w13]) (rest := [(.ref b33)]) (lenOf pd_8 rfl) rfl (by show 2 * 0 + _ ≤ _; exact Nat.le_of_eq rfl) (hb hby at_172) (fun _ _ => ⟨rfl, e33, (by decide : 31 + 0 ≤ _), (by decide : 70 + 0 ≤ _)⟩)) (c' := 31) (n' := 70) rfl rfl
    obtain ⟨rfl, N34q, Kc34, F34_0, F34_1, F34_2, F34_3, F34_4, F34_5, F34_6, F34_7, F34_8, F34_9, F34_10⟩ := hQ34
    have N34 := Fr.app N14 N34q
    refine own_via st34 ?_
    have K34 : Keep h0 T34.heap [] := K33.trans Kc34 (allS (Or.inr sz_b33) all0)
    show own_Go p.tables e below _ (T34.setTop (mkF m 175 #[.val (.int p1), .val (.int p2), .val (.int p3), .val (.int p4), .val w5, .val w6, .val w7, .val w8, .val w9, .val w10, .val w11, .val w12, .val w13, .val w14, .val .null, .unset, .unset] [(.ref b33)]))
    refine own_go (fun _ => XS.astore X34.here hx rfl (hb hby at_175) rfl rfl (l' := #[.val (.int p1), .val (.int p2), .val (.int p3), .val (.int p4), .val w5, .val w6, .val w7, .val w8, .val w9, .val w10, .val w11, .val w12, .val w13, .val w14, .val .null, .val (.ref b33), .unset]) rfl) ?_
    show own_Go p.tables e below _ (T34.setTop (mkF m 177 #[.val (.int p1), .val (.int p2), .val (.int p3), .val (.int p4), .val w5, .val w6, .val w7, .val w8, .val w9, .val w10, .val w11, .val w12, .val w13, .val w14, .val .null, .val (.ref b33), .unset] []))
    refine own_go (fun _ => XS.aload X34.here hx rfl (hb hby at_177) rfl rfl) ?_
    show own_Go p.tables e below _ (T34.setTop (mkF m 179 #[.val (.int p1), .val (.int p2), .val (.int p3), .val (.int p4), .val w5, .val w6, .val w7, .val w8, .val w9, .val w10, .val w11, .val w12, .val w13, .val w14, .val .null, .val (.ref b33), .unset] [(.ref b33)]))
    refine own_go (fun _ => XS.aload X34.here hx rfl (hb hby at_179) rfl r14) ?_
    show own_Go p.tables e below _ (T34.setTop (mkF m 181 #[.val (.int p1), .val (.int p2), .val (.int p3), .val (.int p4), .val w5, .val w6, .val w7, .val w8, .val w9, .val w10, .val w11, .val w12, .val w13, .val w14, .val .null, .val (.ref b33), .unset] [w14, (.ref b33)]))
    obtain ⟨cq35, kq35, q35a, q35b, q35c⟩ := isOf hZ rfl F34_0
    obtain ⟨v35, T35, L35, X35, hQ35, st35⟩ := own_tidyV X34 (X34.virtualBack hx (y := (⟨"com/example/attesta/attesta/contract/Malattia", "withDataFine", "(Ljava/lang/String;)Lcom/example/attesta/attesta/contract/Malattia;"⟩ : MethodName)) (z := (⟨"com/example/attesta/attesta/contract/Malattia", "withDataFine", "(Ljava/lang/String;)Lcom/example/attesta/attesta/contract/Malattia;"⟩ : MethodName)) hown (mvT hZ (hw _ (List.mem_of_getElem? (i := 77) rfl))) (mvT hZ (hw _ (List.mem_of_getElem? (i := 78) rfl))) (notFace_of_selects (args := #[]) (mvT hZ (hw _ (List.mem_of_getElem? (i := 80) rfl)))) (mvT hZ (hw _ (List.mem_of_getElem? (i := 80) rfl))) (mvT hZ (hw _ (List.mem_of_getElem? (i := 79) rfl))) (by decide) (backOf (W := 0) (rm11 l Z a0 hw [] b33 w14 w5 w6 w7 w9 w10 .null w11 w12 w13 T34.heap n0 (Nat.le_trans (Nat.le_trans (Nat.le_trans (Nat.le_trans (Nat.le_trans (Nat.le_trans (Nat.le_trans (Nat.le_trans (Nat.le_trans (Nat.le_trans (Nat.le_trans (Nat.le_trans Z0 Kc5.1) Kc6.1) Kc7.1) Kc8.1) Kc9.1) Kc10.1) Kc11.1) Kc12.1) Kc13.1) Kc14.1) E33.1) Kc34.1) (by first | assumption | rfl) (by first | assumption | rfl) F34_1 (by first | assumption | rfl) F34_2 (by first | assumption | rfl) F34_3 (by first | assumption | rfl) F34_5 (by first | assumption | rfl) F34_6 (by first | assumption | rfl) F34_7 (by first | assumption | rfl) F34_8 (by first | assumption | rfl) F34_9 (by first | assumption | rfl) F34_10) hZ (hw _ (List.mem_of_getElem? (i := 81) rfl)) (hw _ (List.mem_of_getElem? (i := 52) rfl)) (by decide) (by decide)) q35a q35c (g := (mkF m 181 #[.val (.int p1), .val (.int p2), .val (.int p3), .val (.int p4), .val w5, .val w6, .val w7, .val w8, .val w9, .val w10, .val w11, .val w12, .val w13, .val w14, .val .null, .val (.ref b33), .unset] [w14, (.ref b33)])) rfl (by rw [hml]; rfl) (Steps.refl _) (argsL := [w14]) (rest := []) (lenOf pd_9 rfl) rfl (by show 2 * 0 + _ ≤ _; exact Nat.le_of_eq rfl) (hb hby at_181) (fun _ _ => ⟨rfl, rfl, (by decide : 31 + 1 ≤ _), (by decide : 70 + 10 ≤ _)⟩)) (c' := 32) (n' := 80) rfl rfl
    obtain ⟨rfl, N35q, Kc35, F35_0, F35_1, F35_2, F35_3, F35_4, F35_5, F35_6, F35_7, F35_8, F35_9, F35_10⟩ := hQ35
    have N35 := Fr.app N34 N35q
    have K35 : Keep h0 T35.heap [] := K34.trans Kc35 all0
    obtain ⟨b35, g35⟩ : ∃ z, z = T34.heap.size := ⟨_, rfl⟩
    rw [← g35] at F35_0 F35_1 F35_2 F35_3 F35_4 F35_5 F35_6 F35_7 F35_8 F35_9 F35_10 st35
    have g_b35 : n0 ≤ b35 := Nat.le_trans (Nat.le_trans (Nat.le_trans (Nat.le_trans (Nat.le_trans (Nat.le_trans (Nat.le_trans (Nat.le_trans (Nat.le_trans (Nat.le_trans (Nat.le_trans (Nat.le_trans (Nat.le_trans Z0 Kc5.1) Kc6.1) Kc7.1) Kc8.1) Kc9.1) Kc10.1) Kc11.1) Kc12.1) Kc13.1) Kc14.1) E33.1) Kc34.1) (Nat.le_of_eq g35.symm)
    have sz_b35 : h0.size ≤ b35 := (Nat.le_trans K34.1 (Nat.le_of_eq g35.symm))
    refine own_via st35 ?_
    show own_Go p.tables e below _ (T35.setTop (mkF m 184 #[.val (.int p1), .val (.int p2), .val (.int p3), .val (.int p4), .val w5, .val w6, .val w7, .val w8, .val w9, .val w10, .val w11, .val w12, .val w13, .val w14, .val .null, .val (.ref b33), .unset] [(.ref b35)]))
    refine own_go (fun _ => XS.astore X35.here hx rfl (hb hby at_184) rfl rfl (l' := #[.val (.int p1), .val (.int p2), .val (.int p3), .val (.int p4), .val w5, .val w6, .val w7, .val w8, .val w9, .val w10, .val w11, .val w12, .val w13, .val w14, .val .null, .val (.ref b33), .val (.ref b35)]) rfl) ?_
    show own_Go p.tables e below _ (T35.setTop (mkF m 186 #[.val (.int p1), .val (.int p2), .val (.int p3), .val (.int p4), .val w5, .val w6, .val w7, .val w8, .val w9, .val w10, .val w11, .val w12, .val w13, .val w14, .val .null, .val (.ref b33), .val (.ref b35)] []))
    refine own_go (fun _ => XS.aload X35.here hx rfl (hb hby at_186) rfl rfl) ?_
    show own_Go p.tables e below _ (T35.setTop (mkF m 188 #[.val (.int p1), .val (.int p2), .val (.int p3), .val (.int p4), .val w5, .val w6, .val w7, .val w8, .val w9, .val w10, .val w11, .val w12, .val w13, .val w14, .val .null, .val (.ref b33), .val (.ref b35)] [(.ref b35)]))
    refine own_go (fun _ => XS.ifnonnullYes X35.here hx rfl (pc0 := 188) (pc' := 193) rfl (hb hby at_188) rfl (by decide) (by decide)) ?_
    show own_Go p.tables e below _ (T35.setTop (mkF m 193 #[.val (.int p1), .val (.int p2), .val (.int p3), .val (.int p4), .val w5, .val w6, .val w7, .val w8, .val w9, .val w10, .val w11, .val w12, .val w13, .val w14, .val .null, .val (.ref b33), .val (.ref b35)] []))
    refine own_go (fun _ => XS.aload X35.here hx rfl (hb hby at_193) rfl rfl) ?_
    show own_Go p.tables e below _ (T35.setTop (mkF m 195 #[.val (.int p1), .val (.int p2), .val (.int p3), .val (.int p4), .val w5, .val w6, .val w7, .val w8, .val w9, .val w10, .val w11, .val w12, .val w13, .val w14, .val .null, .val (.ref b33), .val (.ref b35)] [(.ref b35)]))
    obtain ⟨cq36, kq36, q36a, q36b, q36c⟩ := isOf hZ rfl F35_0
    obtain ⟨v36, T36, L36, X36, hQ36, st36⟩ := own_tidyV X35 (X35.virtualBack hx (y := (⟨"com/example/attesta/attesta/contract/Malattia", "ruoloMedico", "()Ljava/lang/String;"⟩ : MethodName)) (z := (⟨"com/example/attesta/attesta/contract/Malattia", "ruoloMedico", "()Ljava/lang/String;"⟩ : MethodName)) hown (mvT hZ (hw _ (List.mem_of_getElem? (i := 84) rfl))) (mvT hZ (hw _ (List.mem_of_getElem? (i := 85) rfl))) (notFace_of_selects (args := #[]) (mvT hZ (hw _ (List.mem_of_getElem? (i := 87) rfl)))) (mvT hZ (hw _ (List.mem_of_getElem? (i := 87) rfl))) (mvT hZ (hw _ (List.mem_of_getElem? (i := 86) rfl))) (by decide) (backOf (W := 0) (rm12 l Z a0 hw [] b35 w5 T35.heap n0 (Nat.le_trans (Nat.le_trans (Nat.le_trans (Nat.le_trans (Nat.le_trans (Nat.le_trans (Nat.le_trans (Nat.le_trans (Nat.le_trans (Nat.le_trans (Nat.le_trans (Nat.le_trans (Nat.le_trans Z0 Kc5.1) Kc6.1) Kc7.1) Kc8.1) Kc9.1) Kc10.1) Kc11.1) Kc12.1) Kc13.1) Kc14.1) E33.1) Kc34.1) Kc35.1) (by first | assumption | rfl) F35_1) hZ (hw _ (List.mem_of_getElem? (i := 88) rfl)) (hw _ (List.mem_of_getElem? (i := 52) rfl)) (by decide) (by decide)) q36a q36c (g := (mkF m 195 #[.val (.int p1), .val (.int p2), .val (.int p3), .val (.int p4), .val w5, .val w6, .val w7, .val w8, .val w9, .val w10, .val w11, .val w12, .val w13, .val w14, .val .null, .val (.ref b33), .val (.ref b35)] [(.ref b35)])) rfl (by rw [hml]; rfl) (Steps.refl _) (argsL := []) (rest := []) (lenOf pd_10 rfl) rfl (by show 2 * 0 + _ ≤ _; exact Nat.le_of_eq rfl) (hb hby at_195) (fun _ _ => ⟨rfl, rfl, (by decide : 32 + 0 ≤ _), (by decide : 80 + 0 ≤ _)⟩)) (c' := 32) (n' := 80) rfl rfl
    obtain ⟨rfl, N36q, e36⟩ := hQ36
    have N36 := Fr.app N35 N36q
    refine own_via st36 ?_
    show own_Go p.tables e below _ (T36.setTop (mkF m 198 #[.val (.int p1), .val (.int p2), .val (.int p3), .val (.int p4), .val w5, .val w6, .val w7, .val w8, .val w9, .val w10, .val w11, .val w12, .val w13, .val w14, .val .null, .val (.ref b33), .val (.ref b35)] [w5]))
    refine own_go (fun _ => XS.aload X36.here hx rfl (hb hby at_198) rfl r5) ?_
    show own_Go p.tables e below _ (T36.setTop (mkF m 200 #[.val (.int p1), .val (.int p2), .val (.int p3), .val (.int p4), .val w5, .val w6, .val w7, .val w8, .val w9, .val w10, .val w11, .val w12, .val w13, .val w14, .val .null, .val (.ref b33), .val (.ref b35)] [w5, w5]))
    refine own_go (fun _ => Jvm.RoadKit.acmp (g := (mkF m 200 #[.val (.int p1), .val (.int p2), .val (.int p3), .val (.int p4), .val w5, .val w6, .val w7, .val w8, .val w9, .val w10, .val w11, .val w12, .val w13, .val w14, .val .null, .val (.ref b33), .val (.ref b35)] [w5, w5])) X36 hx rfl r5 r5 (pc0 := 200) (pc' := 203) (same := true) rfl (hb hby at_200) rfl (decide_eq_true rfl) (by decide) (by decide)) ?_
    show own_Go p.tables e below _ (T36.setTop (mkF m 203 #[.val (.int p1), .val (.int p2), .val (.int p3), .val (.int p4), .val w5, .val w6, .val w7, .val w8, .val w9, .val w10, .val w11, .val w12, .val w13, .val w14, .val .null, .val (.ref b33), .val (.ref b35)] []))
    refine own_go (fun _ => XS.aload X36.here hx rfl (hb hby at_203) rfl rfl) ?_
    show own_Go p.tables e below _ (T36.setTop (mkF m 205 #[.val (.int p1), .val (.int p2), .val (.int p3), .val (.int p4), .val w5, .val w6, .val w7, .val w8, .val w9, .val w10, .val w11, .val w12, .val w13, .val w14, .val .null, .val (.ref b33), .val (.ref b35)] [(.ref b35)]))
    obtain ⟨cq37, kq37, q37a, q37b, q37c⟩ := isOf hZ e36 F35_0
    obtain ⟨v37, T37, L37, X37, hQ37, st37⟩ := own_tidyV X36 (X36.virtualBack hx (y := (⟨"com/example/attesta/attesta/contract/Malattia", "dataRilascio", "()Ljava/lang/String;"⟩ : MethodName)) (z := (⟨"com/example/attesta/attesta/contract/Malattia", "dataRilascio", "()Ljava/lang/String;"⟩ : MethodName)) hown (mvT hZ (hw _ (List.mem_of_getElem? (i := 89) rfl))) (mvT hZ (hw _ (List.mem_of_getElem? (i := 90) rfl))) (notFace_of_selects (args := #[]) (mvT hZ (hw _ (List.mem_of_getElem? (i := 92) rfl)))) (mvT hZ (hw _ (List.mem_of_getElem? (i := 92) rfl))) (mvT hZ (hw _ (List.mem_of_getElem? (i := 91) rfl))) (by decide) (backOf (W := 0) (rm13 l Z a0 hw [] b35 w6 T35.heap n0 (Nat.le_trans (Nat.le_trans (Nat.le_trans (Nat.le_trans (Nat.le_trans (Nat.le_trans (Nat.le_trans (Nat.le_trans (Nat.le_trans (Nat.le_trans (Nat.le_trans (Nat.le_trans (Nat.le_trans Z0 Kc5.1) Kc6.1) Kc7.1) Kc8.1) Kc9.1) Kc10.1) Kc11.1) Kc12.1) Kc13.1) Kc14.1) E33.1) Kc34.1) Kc35.1) (by first | assumption | rfl) F35_2) hZ (hw _ (List.mem_of_getElem? (i := 93) rfl)) (hw _ (List.mem_of_getElem? (i := 52) rfl)) (by decide) (by decide)) q37a q37c (g := (mkF m 205 #[.val (.int p1), .val (.int p2), .val (.int p3), .val (.int p4), .val w5, .val w6, .val w7, .val w8, .val w9, .val w10, .val w11, .val w12, .val w13, .val w14, .val .null, .val (.ref b33), .val (.ref b35)] [(.ref b35)])) rfl (by rw [hml]; rfl) (Steps.refl _) (argsL := []) (rest := []) (lenOf pd_10 rfl) rfl (by show 2 * 0 + _ ≤ _; exact Nat.le_of_eq rfl) (hb hby at_205) (fun _ _ => ⟨rfl, e36, (by decide : 32 + 0 ≤ _), (by decide : 80 + 0 ≤ _)⟩)) (c' := 32) (n' := 80) rfl rfl
    obtain ⟨rfl, N37q, e37⟩ := hQ37
    have N37 := Fr.app N36 N37q
    refine own_via st37 ?_
    show own_Go p.tables e below _ (T37.setTop (mkF m 208 #[.val (.int p1), .val (.int p2), .val (.int p3), .val (.int p4), .val w5, .val w6, .val w7, .val w8, .val w9, .val w10, .val w11, .val w12, .val w13, .val w14, .val .null, .val (.ref b33), .val (.ref b35)] [w6]))
    refine own_go (fun _ => XS.aload X37.here hx rfl (hb hby at_208) rfl r6) ?_
    show own_Go p.tables e below _ (T37.setTop (mkF m 210 #[.val (.int p1), .val (.int p2), .val (.int p3), .val (.int p4), .val w5, .val w6, .val w7, .val w8, .val w9, .val w10, .val w11, .val w12, .val w13, .val w14, .val .null, .val (.ref b33), .val (.ref b35)] [w6, w6]))
    refine own_go (fun _ => Jvm.RoadKit.acmp (g := (mkF m 210 #[.val (.int p1), .val (.int p2), .val (.int p3), .val (.int p4), .val w5, .val w6, .val w7, .val w8, .val w9, .val w10, .val w11, .val w12, .val w13, .val w14, .val .null, .val (.ref b33), .val (.ref b35)] [w6, w6])) X37 hx rfl r6 r6 (pc0 := 210) (pc' := 213) (same := true) rfl (hb hby at_210) rfl (decide_eq_true rfl) (by decide) (by decide)) ?_
    show own_Go p.tables e below _ (T37.setTop (mkF m 213 #[.val (.int p1), .val (.int p2), .val (.int p3), .val (.int p4), .val w5, .val w6, .val w7, .val w8, .val w9, .val w10, .val w11, .val w12, .val w13, .val w14, .val .null, .val (.ref b33), .val (.ref b35)] []))
    refine own_go (fun _ => XS.aload X37.here hx rfl (hb hby at_213) rfl rfl) ?_
    show own_Go p.tables e below _ (T37.setTop (mkF m 215 #[.val (.int p1), .val (.int p2), .val (.int p3), .val (.int p4), .val w5, .val w6, .val w7, .val w8, .val w9, .val w10, .val w11, .val w12, .val w13, .val w14, .val .null, .val (.ref b33), .val (.ref b35)] [(.ref b35)]))
    obtain ⟨cq38, kq38, q38a, q38b, q38c⟩ := isOf hZ e37 F35_0
    obtain ⟨v38, T38, L38, X38, hQ38, st38⟩ := own_tidyV X37 (X37.virtualBack hx (y := (⟨"com/example/attesta/attesta/contract/Malattia", "dataInizio", "()Ljava/lang/String;"⟩ : MethodName)) (z := (⟨"com/example/attesta/attesta/contract/Malattia", "dataInizio", "()Ljava/lang/String;"⟩ : MethodName)) hown (mvT hZ (hw _ (List.mem_of_getElem? (i := 94) rfl))) (mvT hZ (hw _ (List.mem_of_getElem? (i := 95) rfl))) (notFace_of_selects (args := #[]) (mvT hZ (hw _ (List.mem_of_getElem? (i := 97) rfl)))) (mvT hZ (hw _ (List.mem_of_getElem? (i := 97) rfl))) (mvT hZ (hw _ (List.mem_of_getElem? (i := 96) rfl))) (by decide) (backOf (W := 0) (rm14 l Z a0 hw [] b35 w7 T35.heap n0 (Nat.le_trans (Nat.le_trans (Nat.le_trans (Nat.le_trans (Nat.le_trans (Nat.le_trans (Nat.le_trans (Nat.le_trans (Nat.le_trans (Nat.le_trans (Nat.le_trans (Nat.le_trans (Nat.le_trans Z0 Kc5.1) Kc6.1) Kc7.1) Kc8.1) Kc9.1) Kc10.1) Kc11.1) Kc12.1) Kc13.1) Kc14.1) E33.1) Kc34.1) Kc35.1) (by first | assumption | rfl) F35_3) hZ (hw _ (List.mem_of_getElem? (i := 98) rfl)) (hw _ (List.mem_of_getElem? (i := 52) rfl)) (by decide) (by decide)) q38a q38c (g := (mkF m 215 #[.val (.int p1), .val (.int p2), .val (.int p3), .val (.int p4), .val w5, .val w6, .val w7, .val w8, .val w9, .val w10, .val w11, .val w12, .val w13, .val w14, .val .null, .val (.ref b33), .val (.ref b35)] [(.ref b35)])) rfl (by rw [hml]; rfl) (Steps.refl _) (argsL := []) (rest := []) (lenOf pd_10 rfl) rfl (by show 2 * 0 + _ ≤ _; exact Nat.le_of_eq rfl) (hb hby at_215) (fun _ _ => ⟨rfl, e37, (by decide : 32 + 0 ≤ _), (by decide : 80 + 0 ≤ _)⟩)) (c' := 32) (n' := 80) rfl rfl
    obtain ⟨rfl, N38q, e38⟩ := hQ38
    have N38 := Fr.app N37 N38q
    refine own_via st38 ?_
    show own_Go p.tables e below _ (T38.setTop (mkF m 218 #[.val (.int p1), .val (.int p2), .val (.int p3), .val (.int p4), .val w5, .val w6, .val w7, .val w8, .val w9, .val w10, .val w11, .val w12, .val w13, .val w14, .val .null, .val (.ref b33), .val (.ref b35)] [w7]))
    refine own_go (fun _ => XS.aload X38.here hx rfl (hb hby at_218) rfl r7) ?_
    show own_Go p.tables e below _ (T38.setTop (mkF m 220 #[.val (.int p1), .val (.int p2), .val (.int p3), .val (.int p4), .val w5, .val w6, .val w7, .val w8, .val w9, .val w10, .val w11, .val w12, .val w13, .val w14, .val .null, .val (.ref b33), .val (.ref b35)] [w7, w7]))
    refine own_go (fun _ => Jvm.RoadKit.acmp (g := (mkF m 220 #[.val (.int p1), .val (.int p2), .val (.int p3), .val (.int p4), .val w5, .val w6, .val w7, .val w8, .val w9, .val w10, .val w11, .val w12, .val w13, .val w14, .val .null, .val (.ref b33), .val (.ref b35)] [w7, w7])) X38 hx rfl r7 r7 (pc0 := 220) (pc' := 223) (same := true) rfl (hb hby at_220) rfl (decide_eq_true rfl) (by decide) (by decide)) ?_
    show own_Go p.tables e below _ (T38.setTop (mkF m 223 #[.val (.int p1), .val (.int p2), .val (.int p3), .val (.int p4), .val w5, .val w6, .val w7, .val w8, .val w9, .val w10, .val w11, .val w12, .val w13, .val w14, .val .null, .val (.ref b33), .val (.ref b35)] []))
    refine own_go (fun _ => XS.aload X38.here hx rfl (hb hby at_223) rfl rfl) ?_
    show own_Go p.tables e below _ (T38.setTop (mkF m 225 #[.val (.int p1), .val (.int p2), .val (.int p3), .val (.int p4), .val w5, .val w6, .val w7, .val w8, .val w9, .val w10, .val w11, .val w12, .val w13, .val w14, .val .null, .val (.ref b33), .val (.ref b35)] [(.ref b35)]))
    obtain ⟨cq39, kq39, q39a, q39b, q39c⟩ := isOf hZ e38 F35_0
    obtain ⟨v39, T39, L39, X39, hQ39, st39⟩ := own_tidyV X38 (X38.virtualBack hx (y := (⟨"com/example/attesta/attesta/contract/Malattia", "dataFine", "()Ljava/lang/String;"⟩ : MethodName)) (z := (⟨"com/example/attesta/attesta/contract/Malattia", "dataFine", "()Ljava/lang/String;"⟩ : MethodName)) hown (mvT hZ (hw _ (List.mem_of_getElem? (i := 99) rfl))) (mvT hZ (hw _ (List.mem_of_getElem? (i := 100) rfl))) (notFace_of_selects (args := #[]) (mvT hZ (hw _ (List.mem_of_getElem? (i := 102) rfl)))) (mvT hZ (hw _ (List.mem_of_getElem? (i := 102) rfl))) (mvT hZ (hw _ (List.mem_of_getElem? (i := 101) rfl))) (by decide) (backOf (W := 0) (rm15 l Z a0 hw [] b35 w14 T35.heap n0 (Nat.le_trans (Nat.le_trans (Nat.le_trans (Nat.le_trans (Nat.le_trans (Nat.le_trans (Nat.le_trans (Nat.le_trans (Nat.le_trans (Nat.le_trans (Nat.le_trans (Nat.le_trans (Nat.le_trans Z0 Kc5.1) Kc6.1) Kc7.1) Kc8.1) Kc9.1) Kc10.1) Kc11.1) Kc12.1) Kc13.1) Kc14.1) E33.1) Kc34.1) Kc35.1) (by first | assumption | rfl) F35_4) hZ (hw _ (List.mem_of_getElem? (i := 103) rfl)) (hw _ (List.mem_of_getElem? (i := 52) rfl)) (by decide) (by decide)) q39a q39c (g := (mkF m 225 #[.val (.int p1), .val (.int p2), .val (.int p3), .val (.int p4), .val w5, .val w6, .val w7, .val w8, .val w9, .val w10, .val w11, .val w12, .val w13, .val w14, .val .null, .val (.ref b33), .val (.ref b35)] [(.ref b35)])) rfl (by rw [hml]; rfl) (Steps.refl _) (argsL := []) (rest := []) (lenOf pd_10 rfl) rfl (by show 2 * 0 + _ ≤ _; exact Nat.le_of_eq rfl) (hb hby at_225) (fun _ _ => ⟨rfl, e38, (by decide : 32 + 0 ≤ _), (by decide : 80 + 0 ≤ _)⟩)) (c' := 32) (n' := 80) rfl rfl
    obtain ⟨rfl, N39q, e39⟩ := hQ39
    have N39 := Fr.app N38 N39q
    refine own_via st39 ?_
    show own_Go p.tables e below _ (T39.setTop (mkF m 228 #[.val (.int p1), .val (.int p2), .val (.int p3), .val (.int p4), .val w5, .val w6, .val w7, .val w8, .val w9, .val w10, .val w11, .val w12, .val w13, .val w14, .val .null, .val (.ref b33), .val (.ref b35)] [w14]))
    refine own_go (fun _ => XS.aload X39.here hx rfl (hb hby at_228) rfl r14) ?_
    show own_Go p.tables e below _ (T39.setTop (mkF m 230 #[.val (.int p1), .val (.int p2), .val (.int p3), .val (.int p4), .val w5, .val w6, .val w7, .val w8, .val w9, .val w10, .val w11, .val w12, .val w13, .val w14, .val .null, .val (.ref b33), .val (.ref b35)] [w14, w14]))
    refine own_go (fun _ => Jvm.RoadKit.acmp (g := (mkF m 230 #[.val (.int p1), .val (.int p2), .val (.int p3), .val (.int p4), .val w5, .val w6, .val w7, .val w8, .val w9, .val w10, .val w11, .val w12, .val w13, .val w14, .val .null, .val (.ref b33), .val (.ref b35)] [w14, w14])) X39 hx rfl r14 r14 (pc0 := 230) (pc' := 233) (same := true) rfl (hb hby at_230) rfl (decide_eq_true rfl) (by decide) (by decide)) ?_
    show own_Go p.tables e below _ (T39.setTop (mkF m 233 #[.val (.int p1), .val (.int p2), .val (.int p3), .val (.int p4), .val w5, .val w6, .val w7, .val w8, .val w9, .val w10, .val w11, .val w12, .val w13, .val w14, .val .null, .val (.ref b33), .val (.ref b35)] []))
    refine own_go (fun _ => XS.aload X39.here hx rfl (hb hby at_233) rfl rfl) ?_
    show own_Go p.tables e below _ (T39.setTop (mkF m 235 #[.val (.int p1), .val (.int p2), .val (.int p3), .val (.int p4), .val w5, .val w6, .val w7, .val w8, .val w9, .val w10, .val w11, .val w12, .val w13, .val w14, .val .null, .val (.ref b33), .val (.ref b35)] [(.ref b35)]))
    obtain ⟨cq40, kq40, q40a, q40b, q40c⟩ := isOf hZ e39 F35_0
    obtain ⟨v40, T40, L40, X40, hQ40, st40⟩ := own_tidyV X39 (X39.virtualBack hx (y := (⟨"com/example/attesta/attesta/contract/Malattia", "visita", "()Ljava/lang/String;"⟩ : MethodName)) (z := (⟨"com/example/attesta/attesta/contract/Malattia", "visita", "()Ljava/lang/String;"⟩ : MethodName)) hown (mvT hZ (hw _ (List.mem_of_getElem? (i := 104) rfl))) (mvT hZ (hw _ (List.mem_of_getElem? (i := 105) rfl))) (notFace_of_selects (args := #[]) (mvT hZ (hw _ (List.mem_of_getElem? (i := 107) rfl)))) (mvT hZ (hw _ (List.mem_of_getElem? (i := 107) rfl))) (mvT hZ (hw _ (List.mem_of_getElem? (i := 106) rfl))) (by decide) (backOf (W := 0) (rm16 l Z a0 hw [] b35 w9 T35.heap n0 (Nat.le_trans (Nat.le_trans (Nat.le_trans (Nat.le_trans (Nat.le_trans (Nat.le_trans (Nat.le_trans (Nat.le_trans (Nat.le_trans (Nat.le_trans (Nat.le_trans (Nat.le_trans (Nat.le_trans Z0 Kc5.1) Kc6.1) Kc7.1) Kc8.1) Kc9.1) Kc10.1) Kc11.1) Kc12.1) Kc13.1) Kc14.1) E33.1) Kc34.1) Kc35.1) (by first | assumption | rfl) F35_5) hZ (hw _ (List.mem_of_getElem? (i := 108) rfl)) (hw _ (List.mem_of_getElem? (i := 52) rfl)) (by decide) (by decide)) q40a q40c (g := (mkF m 235 #[.val (.int p1), .val (.int p2), .val (.int p3), .val (.int p4), .val w5, .val w6, .val w7, .val w8, .val w9, .val w10, .val w11, .val w12, .val w13, .val w14, .val .null, .val (.ref b33), .val (.ref b35)] [(.ref b35)])) rfl (by rw [hml]; rfl) (Steps.refl _) (argsL := []) (rest := []) (lenOf pd_10 rfl) rfl (by show 2 * 0 + _ ≤ _; exact Nat.le_of_eq rfl) (hb hby at_235) (fun _ _ => ⟨rfl, e39, (by decide : 32 + 0 ≤ _), (by decide : 80 + 0 ≤ _)⟩)) (c' := 32) (n' := 80) rfl rfl
    obtain ⟨rfl, N40q, e40⟩ := hQ40
    have N40 := Fr.app N39 N40q
    refine own_via st40 ?_
    show own_Go p.tables e below _ (T40.setTop (mkF m 238 #[.val (.int p1), .val (.int p2), .val (.int p3), .val (.int p4), .val w5, .val w6, .val w7, .val w8, .val w9, .val w10, .val w11, .val w12, .val w13, .val w14, .val .null, .val (.ref b33), .val (.ref b35)] [w9]))
    refine own_go (fun _ => XS.aload X40.here hx rfl (hb hby at_238) rfl r9) ?_
    show own_Go p.tables e below _ (T40.setTop (mkF m 240 #[.val (.int p1), .val (.int p2), .val (.int p3), .val (.int p4), .val w5, .val w6, .val w7, .val w8, .val w9, .val w10, .val w11, .val w12, .val w13, .val w14, .val .null, .val (.ref b33), .val (.ref b35)] [w9, w9]))
    refine own_go (fun _ => Jvm.RoadKit.acmp (g := (mkF m 240 #[.val (.int p1), .val (.int p2), .val (.int p3), .val (.int p4), .val w5, .val w6, .val w7, .val w8, .val w9, .val w10, .val w11, .val w12, .val w13, .val w14, .val .null, .val (.ref b33), .val (.ref b35)] [w9, w9])) X40 hx rfl r9 r9 (pc0 := 240) (pc' := 243) (same := true) rfl (hb hby at_240) rfl (decide_eq_true rfl) (by decide) (by decide)) ?_
    show own_Go p.tables e below _ (T40.setTop (mkF m 243 #[.val (.int p1), .val (.int p2), .val (.int p3), .val (.int p4), .val w5, .val w6, .val w7, .val w8, .val w9, .val w10, .val w11, .val w12, .val w13, .val w14, .val .null, .val (.ref b33), .val (.ref b35)] []))
    refine own_go (fun _ => XS.aload X40.here hx rfl (hb hby at_243) rfl rfl) ?_
    show own_Go p.tables e below _ (T40.setTop (mkF m 245 #[.val (.int p1), .val (.int p2), .val (.int p3), .val (.int p4), .val w5, .val w6, .val w7, .val w8, .val w9, .val w10, .val w11, .val w12, .val w13, .val w14, .val .null, .val (.ref b33), .val (.ref b35)] [(.ref b35)]))
    obtain ⟨cq41, kq41, q41a, q41b, q41c⟩ := isOf hZ e40 F35_0
    obtain ⟨v41, T41, L41, X41, hQ41, st41⟩ := own_tidyV X40 (X40.virtualBack hx (y := (⟨"com/example/attesta/attesta/contract/Malattia", "tipoCertificato", "()Ljava/lang/String;"⟩ : MethodName)) (z := (⟨"com/example/attesta/attesta/contract/Malattia", "tipoCertificato", "()Ljava/lang/String;"⟩ : MethodName)) hown (mvT hZ (hw _ (List.mem_of_getElem? (i := 109) rfl))) (mvT hZ (hw _ (List.mem_of_getElem? (i := 110) rfl))) (notFace_of_selects (args := #[]) (mvT hZ (hw _ (List.mem_of_getElem? (i := 112) rfl)))) (mvT hZ (hw _ (List.mem_of_getElem? (i := 112) rfl))) (mvT hZ (hw _ (List.mem_of_getElem? (i := 111) rfl))) (by decide) (backOf (W := 0) (rm17 l Z a0 hw [] b35 w10 T35.heap n0 (Nat.le_trans (Nat.le_trans (Nat.le_trans (Nat.le_trans (Nat.le_trans (Nat.le_trans (Nat.le_trans (Nat.le_trans (Nat.le_trans (Nat.le_trans (Nat.le_trans (Nat.le_trans (Nat.le_trans Z0 Kc5.1) Kc6.1) Kc7.1) Kc8.1) Kc9.1) Kc10.1) Kc11.1) Kc12.1) Kc13.1) Kc14.1) E33.1) Kc34.1) Kc35.1) (by first | assumption | rfl) F35_6) hZ (hw _ (List.mem_of_getElem? (i := 113) rfl)) (hw _ (List.mem_of_getElem? (i := 52) rfl)) (by decide) (by decide)) q41a q41c (g := (mkF m 245 #[.val (.int p1), .val (.int p2), .val (.int p3), .val (.int p4), .val w5, .val w6, .val w7, .val w8, .val w9, .val w10, .val w11, .val w12, .val w13, .val w14, .val .null, .val (.ref b33), .val (.ref b35)] [(.ref b35)])) rfl (by rw [hml]; rfl) (Steps.refl _) (argsL := []) (rest := []) (lenOf pd_10 rfl) rfl (by show 2 * 0 + _ ≤ _; exact Nat.le_of_eq rfl) (hb hby at_245) (fun _ _ => ⟨rfl, e40, (by decide : 32 + 0 ≤ _), (by decide : 80 + 0 ≤ _)⟩)) (c' := 32) (n' := 80) rfl rfl
    obtain ⟨rfl, N41q, e41⟩ := hQ41
    have N41 := Fr.app N40 N41q
    refine own_via st41 ?_
    show own_Go p.tables e below _ (T41.setTop (mkF m 248 #[.val (.int p1), .val (.int p2), .val (.int p3), .val (.int p4), .val w5, .val w6, .val w7, .val w8, .val w9, .val w10, .val w11, .val w12, .val w13, .val w14, .val .null, .val (.ref b33), .val (.ref b35)] [w10]))
    refine own_go (fun _ => XS.aload X41.here hx rfl (hb hby at_248) rfl r10) ?_
    show own_Go p.tables e below _ (T41.setTop (mkF m 250 #[.val (.int p1), .val (.int p2), .val (.int p3), .val (.int p4), .val w5, .val w6, .val w7, .val w8, .val w9, .val w10, .val w11, .val w12, .val w13, .val w14, .val .null, .val (.ref b33), .val (.ref b35)] [w10, w10]))
    refine own_go (fun _ => Jvm.RoadKit.acmp (g := (mkF m 250 #[.val (.int p1), .val (.int p2), .val (.int p3), .val (.int p4), .val w5, .val w6, .val w7, .val w8, .val w9, .val w10, .val w11, .val w12, .val w13, .val w14, .val .null, .val (.ref b33), .val (.ref b35)] [w10, w10])) X41 hx rfl r10 r10 (pc0 := 250) (pc' := 253) (same := true) rfl (hb hby at_250) rfl (decide_eq_true rfl) (by decide) (by decide)) ?_
    show own_Go p.tables e below _ (T41.setTop (mkF m 253 #[.val (.int p1), .val (.int p2), .val (.int p3), .val (.int p4), .val w5, .val w6, .val w7, .val w8, .val w9, .val w10, .val w11, .val w12, .val w13, .val w14, .val .null, .val (.ref b33), .val (.ref b35)] []))
    refine own_go (fun _ => XS.aload X41.here hx rfl (hb hby at_253) rfl rfl) ?_
    show own_Go p.tables e below _ (T41.setTop (mkF m 255 #[.val (.int p1), .val (.int p2), .val (.int p3), .val (.int p4), .val w5, .val w6, .val w7, .val w8, .val w9, .val w10, .val w11, .val w12, .val w13, .val w14, .val .null, .val (.ref b33), .val (.ref b35)] [(.ref b35)]))
    obtain ⟨cq42, kq42, q42a, q42b, q42c⟩ := isOf hZ e41 F35_0
    obtain ⟨v42, T42, L42, X42, hQ42, st42⟩ := own_tidyV X41 (X41.virtualBack hx (y := (⟨"com/example/attesta/attesta/contract/Malattia", "diagnosi", "()Lcom/example/attesta/attesta/contract/Diagnosi;"⟩ : MethodName)) (z := (⟨"com/example/attesta/attesta/contract/Malattia", "diagnosi", "()Lcom/example/attesta/attesta/contract/Diagnosi;"⟩ : MethodName)) hown (mvT hZ (hw _ (List.mem_of_getElem? (i := 114) rfl))) (mvT hZ (hw _ (List.mem_of_getElem? (i := 115) rfl))) (notFace_of_selects (args := #[]) (mvT hZ (hw _ (List.mem_of_getElem? (i := 117) rfl)))) (mvT hZ (hw _ (List.mem_of_getElem? (i := 117) rfl))) (mvT hZ (hw _ (List.mem_of_getElem? (i := 116) rfl))) (by decide) (backOf (W := 0) (rm18 l Z a0 hw [] b35 .null T35.heap n0 (Nat.le_trans (Nat.le_trans (Nat.le_trans (Nat.le_trans (Nat.le_trans (Nat.le_trans (Nat.le_trans (Nat.le_trans (Nat.le_trans (Nat.le_trans (Nat.le_trans (Nat.le_trans (Nat.le_trans Z0 Kc5.1) Kc6.1) Kc7.1) Kc8.1) Kc9.1) Kc10.1) Kc11.1) Kc12.1) Kc13.1) Kc14.1) E33.1) Kc34.1) Kc35.1) (by first | assumption | rfl) F35_7) hZ (hw _ (List.mem_of_getElem? (i := 118) rfl)) (hw _ (List.mem_of_getElem? (i := 52) rfl)) (by decide) (by decide)) q42a q42c (g := (mkF m 255 #[.val (.int p1), .val (.int p2), .val (.int p3), .val (.int p4), .val w5, .val w6, .val w7, .val w8, .val w9, .val w10, .val w11, .val w12, .val w13, .val w14, .val .null, .val (.ref b33), .val (.ref b35)] [(.ref b35)])) rfl (by rw [hml]; rfl) (Steps.refl _) (argsL := []) (rest := []) (lenOf pd_11 rfl) rfl (by show 2 * 0 + _ ≤ _; exact Nat.le_of_eq rfl) (hb hby at_255) (fun _ _ => ⟨rfl, e41, (by decide : 32 + 0 ≤ _), (by decide : 80 + 0 ≤ _)⟩)) (c' := 32) (n' := 80) rfl rfl
    obtain ⟨rfl, N42q, e42⟩ := hQ42
    have N42 := Fr.app N41 N42q
    refine own_via st42 ?_
    show own_Go p.tables e below _ (T42.setTop (mkF m 258 #[.val (.int p1), .val (.int p2), .val (.int p3), .val (.int p4), .val w5, .val w6, .val w7, .val w8, .val w9, .val w10, .val w11, .val w12, .val w13, .val w14, .val .null, .val (.ref b33), .val (.ref b35)] [.null]))
    refine own_go (fun _ => XS.aload X42.here hx rfl (hb hby at_258) rfl rfl) ?_
    show own_Go p.tables e below _ (T42.setTop (mkF m 260 #[.val (.int p1), .val (.int p2), .val (.int p3), .val (.int p4), .val w5, .val w6, .val w7, .val w8, .val w9, .val w10, .val w11, .val w12, .val w13, .val w14, .val .null, .val (.ref b33), .val (.ref b35)] [.null, .null]))
    refine own_go (fun _ => Jvm.RoadKit.acmp (g := (mkF m 260 #[.val (.int p1), .val (.int p2), .val (.int p3), .val (.int p4), .val w5, .val w6, .val w7, .val w8, .val w9, .val w10, .val w11, .val w12, .val w13, .val w14, .val .null, .val (.ref b33), .val (.ref b35)] [.null, .null])) X42 hx rfl rfl rfl (pc0 := 260) (pc' := 263) (same := true) rfl (hb hby at_260) rfl (decide_eq_true rfl) (by decide) (by decide)) ?_
    show own_Go p.tables e below _ (T42.setTop (mkF m 263 #[.val (.int p1), .val (.int p2), .val (.int p3), .val (.int p4), .val w5, .val w6, .val w7, .val w8, .val w9, .val w10, .val w11, .val w12, .val w13, .val w14, .val .null, .val (.ref b33), .val (.ref b35)] []))
    refine own_go (fun _ => XS.aload X42.here hx rfl (hb hby at_263) rfl rfl) ?_
    show own_Go p.tables e below _ (T42.setTop (mkF m 265 #[.val (.int p1), .val (.int p2), .val (.int p3), .val (.int p4), .val w5, .val w6, .val w7, .val w8, .val w9, .val w10, .val w11, .val w12, .val w13, .val w14, .val .null, .val (.ref b33), .val (.ref b35)] [(.ref b35)]))
    obtain ⟨cq43, kq43, q43a, q43b, q43c⟩ := isOf hZ e42 F35_0
    obtain ⟨v43, T43, L43, X43, hQ43, st43⟩ := own_tidyV X42 (X42.virtualBack hx (y := (⟨"com/example/attesta/attesta/contract/Malattia", "giornataLavorata", "()Ljava/lang/String;"⟩ : MethodName)) (z := (⟨"com/example/attesta/attesta/contract/Malattia", "giornataLavorata", "()Ljava/lang/String;"⟩ : MethodName)) hown (mvT hZ (hw _ (List.mem_of_getElem? (i := 119) rfl))) (mvT hZ (hw _ (List.mem_of_getElem? (i := 120) rfl))) (notFace_of_selects (args := #[]) (mvT hZ (hw _ (List.mem_of_getElem? (i := 122) rfl)))) (mvT hZ (hw _ (List.mem_of_getElem? (i := 122) rfl))) (mvT hZ (hw _ (List.mem_of_getElem? (i := 121) rfl))) (by decide) (backOf (W := 0) (rm19 l Z a0 hw [] b35 w11 T35.heap n0 (Nat.le_trans (Nat.le_trans (Nat.le_trans (Nat.le_trans (Nat.le_trans (Nat.le_trans (Nat.le_trans (Nat.le_trans (Nat.le_trans (Nat.le_trans (Nat.le_trans (Nat.le_trans (Nat.le_trans Z0 Kc5.1) Kc6.1) Kc7.1) Kc8.1) Kc9.1) Kc10.1) Kc11.1) Kc12.1) Kc13.1) Kc14.1) E33.1) Kc34.1) Kc35.1) (by first | assumption | rfl) F35_8) hZ (hw _ (List.mem_of_getElem? (i := 123) rfl)) (hw _ (List.mem_of_getElem? (i := 52) rfl)) (by decide) (by decide)) q43a q43c (g := (mkF m 265 #[.val (.int p1), .val (.int p2), .val (.int p3), .val (.int p4), .val w5, .val w6, .val w7, .val w8, .val w9, .val w10, .val w11, .val w12, .val w13, .val w14, .val .null, .val (.ref b33), .val (.ref b35)] [(.ref b35)])) rfl (by rw [hml]; rfl) (Steps.refl _) (argsL := []) (rest := []) (lenOf pd_10 rfl) rfl (by show 2 * 0 + _ ≤ _; exact Nat.le_of_eq rfl) (hb hby at_265) (fun _ _ => ⟨rfl, e42, (by decide : 32 + 0 ≤ _), (by decide : 80 + 0 ≤ _)⟩)) (c' := 32) (n' := 80) rfl rfl
    obtain ⟨rfl, N43q, e43⟩ := hQ43
    have N43 := Fr.app N42 N43q
    refine own_via st43 ?_
    show own_Go p.tables e below _ (T43.setTop (mkF m 268 #[.val (.int p1), .val (.int p2), .val (.int p3), .val (.int p4), .val w5, .val w6, .val w7, .val w8, .val w9, .val w10, .val w11, .val w12, .val w13, .val w14, .val .null, .val (.ref b33), .val (.ref b35)] [w11]))
    refine own_go (fun _ => XS.aload X43.here hx rfl (hb hby at_268) rfl r11) ?_
    show own_Go p.tables e below _ (T43.setTop (mkF m 270 #[.val (.int p1), .val (.int p2), .val (.int p3), .val (.int p4), .val w5, .val w6, .val w7, .val w8, .val w9, .val w10, .val w11, .val w12, .val w13, .val w14, .val .null, .val (.ref b33), .val (.ref b35)] [w11, w11]))
    refine own_go (fun _ => Jvm.RoadKit.acmp (g := (mkF m 270 #[.val (.int p1), .val (.int p2), .val (.int p3), .val (.int p4), .val w5, .val w6, .val w7, .val w8, .val w9, .val w10, .val w11, .val w12, .val w13, .val w14, .val .null, .val (.ref b33), .val (.ref b35)] [w11, w11])) X43 hx rfl r11 r11 (pc0 := 270) (pc' := 273) (same := true) rfl (hb hby at_270) rfl (decide_eq_true rfl) (by decide) (by decide)) ?_
    show own_Go p.tables e below _ (T43.setTop (mkF m 273 #[.val (.int p1), .val (.int p2), .val (.int p3), .val (.int p4), .val w5, .val w6, .val w7, .val w8, .val w9, .val w10, .val w11, .val w12, .val w13, .val w14, .val .null, .val (.ref b33), .val (.ref b35)] []))
    refine own_go (fun _ => XS.aload X43.here hx rfl (hb hby at_273) rfl rfl) ?_
    show own_Go p.tables e below _ (T43.setTop (mkF m 275 #[.val (.int p1), .val (.int p2), .val (.int p3), .val (.int p4), .val w5, .val w6, .val w7, .val w8, .val w9, .val w10, .val w11, .val w12, .val w13, .val w14, .val .null, .val (.ref b33), .val (.ref b35)] [(.ref b35)]))
    obtain ⟨cq44, kq44, q44a, q44b, q44c⟩ := isOf hZ e43 F35_0
    obtain ⟨v44, T44, L44, X44, hQ44, st44⟩ := own_tidyV X43 (X43.virtualBack hx (y := (⟨"com/example/attesta/attesta/contract/Malattia", "trauma", "()Ljava/lang/String;"⟩ : MethodName)) (z := (⟨"com/example/attesta/attesta/contract/Malattia", "trauma", "()Ljava/lang/String;"⟩ : MethodName)) hown (mvT hZ (hw _ (List.mem_of_getElem? (i := 124) rfl))) (mvT hZ (hw _ (List.mem_of_getElem? (i := 125) rfl))) (notFace_of_selects (args := #[]) (mvT hZ (hw _ (List.mem_of_getElem? (i := 127) rfl)))) (mvT hZ (hw _ (List.mem_of_getElem? (i := 127) rfl))) (mvT hZ (hw _ (List.mem_of_getElem? (i := 126) rfl))) (by decide) (backOf (W := 0) (rm20 l Z a0 hw [] b35 w12 T35.heap n0 (Nat.le_trans (Nat.le_trans (Nat.le_trans (Nat.le_trans (Nat.le_trans (Nat.le_trans (Nat.le_trans (Nat.le_trans (Nat.le_trans (Nat.le_trans (Nat.le_trans (Nat.le_trans (Nat.le_trans Z0 Kc5.1) Kc6.1) Kc7.1) Kc8.1) Kc9.1) Kc10.1) Kc11.1) Kc12.1) Kc13.1) Kc14.1) E33.1) Kc34.1) Kc35.1) (by first | assumption | rfl) F35_9) hZ (hw _ (List.mem_of_getElem? (i := 128) rfl)) (hw _ (List.mem_of_getElem? (i := 52) rfl)) (by decide) (by decide)) q44a q44c (g := (mkF m 275 #[.val (.int p1), .val (.int p2), .val (.int p3), .val (.int p4), .val w5, .val w6, .val w7, .val w8, .val w9, .val w10, .val w11, .val w12, .val w13, .val w14, .val .null, .val (.ref b33), .val (.ref b35)] [(.ref b35)])) rfl (by rw [hml]; rfl) (Steps.refl _) (argsL := []) (rest := []) (lenOf pd_10 rfl) rfl (by show 2 * 0 + _ ≤ _; exact Nat.le_of_eq rfl) (hb hby at_275) (fun _ _ => ⟨rfl, e43, (by decide : 32 + 0 ≤ _), (by decide : 80 + 0 ≤ _)⟩)) (c' := 32) (n' := 80) rfl rfl
    obtain ⟨rfl, N44q, e44⟩ := hQ44
    have N44 := Fr.app N43 N44q
    refine own_via st44 ?_
    show own_Go p.tables e below _ (T44.setTop (mkF m 278 #[.val (.int p1), .val (.int p2), .val (.int p3), .val (.int p4), .val w5, .val w6, .val w7, .val w8, .val w9, .val w10, .val w11, .val w12, .val w13, .val w14, .val .null, .val (.ref b33), .val (.ref b35)] [w12]))
    refine own_go (fun _ => XS.aload X44.here hx rfl (hb hby at_278) rfl r12) ?_
    show own_Go p.tables e below _ (T44.setTop (mkF m 280 #[.val (.int p1), .val (.int p2), .val (.int p3), .val (.int p4), .val w5, .val w6, .val w7, .val w8, .val w9, .val w10, .val w11, .val w12, .val w13, .val w14, .val .null, .val (.ref b33), .val (.ref b35)] [w12, w12]))
    refine own_go (fun _ => Jvm.RoadKit.acmp (g := (mkF m 280 #[.val (.int p1), .val (.int p2), .val (.int p3), .val (.int p4), .val w5, .val w6, .val w7, .val w8, .val w9, .val w10, .val w11, .val w12, .val w13, .val w14, .val .null, .val (.ref b33), .val (.ref b35)] [w12, w12])) X44 hx rfl r12 r12 (pc0 := 280) (pc' := 283) (same := true) rfl (hb hby at_280) rfl (decide_eq_true rfl) (by decide) (by decide)) ?_
    show own_Go p.tables e below _ (T44.setTop (mkF m 283 #[.val (.int p1), .val (.int p2), .val (.int p3), .val (.int p4), .val w5, .val w6, .val w7, .val w8, .val w9, .val w10, .val w11, .val w12, .val w13, .val w14, .val .null, .val (.ref b33), .val (.ref b35)] []))
    refine own_go (fun _ => XS.aload X44.here hx rfl (hb hby at_283) rfl rfl) ?_
    show own_Go p.tables e below _ (T44.setTop (mkF m 285 #[.val (.int p1), .val (.int p2), .val (.int p3), .val (.int p4), .val w5, .val w6, .val w7, .val w8, .val w9, .val w10, .val w11, .val w12, .val w13, .val w14, .val .null, .val (.ref b33), .val (.ref b35)] [(.ref b35)]))
    obtain ⟨cq45, kq45, q45a, q45b, q45c⟩ := isOf hZ e44 F35_0
    obtain ⟨v45, T45, L45, X45, hQ45, st45⟩ := own_tidyV X44 (X44.virtualBack hx (y := (⟨"com/example/attesta/attesta/contract/Malattia", "agevolazioni", "()Ljava/lang/String;"⟩ : MethodName)) (z := (⟨"com/example/attesta/attesta/contract/Malattia", "agevolazioni", "()Ljava/lang/String;"⟩ : MethodName)) hown (mvT hZ (hw _ (List.mem_of_getElem? (i := 129) rfl))) (mvT hZ (hw _ (List.mem_of_getElem? (i := 130) rfl))) (notFace_of_selects (args := #[]) (mvT hZ (hw _ (List.mem_of_getElem? (i := 132) rfl)))) (mvT hZ (hw _ (List.mem_of_getElem? (i := 132) rfl))) (mvT hZ (hw _ (List.mem_of_getElem? (i := 131) rfl))) (by decide) (backOf (W := 0) (rm21 l Z a0 hw [] b35 w13 T35.heap n0 (Nat.le_trans (Nat.le_trans (Nat.le_trans (Nat.le_trans (Nat.le_trans (Nat.le_trans (Nat.le_trans (Nat.le_trans (Nat.le_trans (Nat.le_trans (Nat.le_trans (Nat.le_trans (Nat.le_trans Z0 Kc5.1) Kc6.1) Kc7.1) Kc8.1) Kc9.1) Kc10.1) Kc11.1) Kc12.1) Kc13.1) Kc14.1) E33.1) Kc34.1) Kc35.1) (by first | assumption | rfl) F35_10) hZ (hw _ (List.mem_of_getElem? (i := 133) rfl)) (hw _ (List.mem_of_getElem? (i := 52) rfl)) (by decide) (by decide)) q45a q45c (g := (mkF m 285 #[.val (.int p1), .val (.int p2), .val (.int p3), .val (.int p4), .val w5, .val w6, .val w7, .val w8, .val w9, .val w10, .val w11, .val w12, .val w13, .val w14, .val .null, .val (.ref b33), .val (.ref b35)] [(.ref b35)])) rfl (by rw [hml]; rfl) (Steps.refl _) (argsL := []) (rest := []) (lenOf pd_10 rfl) rfl (by show 2 * 0 + _ ≤ _; exact Nat.le_of_eq rfl) (hb hby at_285) (fun _ _ => ⟨rfl, e44, (by decide : 32 + 0 ≤ _), (by decide : 80 + 0 ≤ _)⟩)) (c' := 32) (n' := 80) rfl rfl
    obtain ⟨rfl, N45q, e45⟩ := hQ45
    have N45 := Fr.app N44 N45q
    refine own_via st45 ?_
    show own_Go p.tables e below _ (T45.setTop (mkF m 288 #[.val (.int p1), .val (.int p2), .val (.int p3), .val (.int p4), .val w5, .val w6, .val w7, .val w8, .val w9, .val w10, .val w11, .val w12, .val w13, .val w14, .val .null, .val (.ref b33), .val (.ref b35)] [w13]))
    refine own_go (fun _ => XS.aload X45.here hx rfl (hb hby at_288) rfl r13) ?_
    show own_Go p.tables e below _ (T45.setTop (mkF m 290 #[.val (.int p1), .val (.int p2), .val (.int p3), .val (.int p4), .val w5, .val w6, .val w7, .val w8, .val w9, .val w10, .val w11, .val w12, .val w13, .val w14, .val .null, .val (.ref b33), .val (.ref b35)] [w13, w13]))
    refine own_go (fun _ => Jvm.RoadKit.acmp (g := (mkF m 290 #[.val (.int p1), .val (.int p2), .val (.int p3), .val (.int p4), .val w5, .val w6, .val w7, .val w8, .val w9, .val w10, .val w11, .val w12, .val w13, .val w14, .val .null, .val (.ref b33), .val (.ref b35)] [w13, w13])) X45 hx rfl r13 r13 (pc0 := 290) (pc' := 293) (same := true) rfl (hb hby at_290) rfl (decide_eq_true rfl) (by decide) (by decide)) ?_
    show own_Go p.tables e below _ (T45.setTop (mkF m 293 #[.val (.int p1), .val (.int p2), .val (.int p3), .val (.int p4), .val w5, .val w6, .val w7, .val w8, .val w9, .val w10, .val w11, .val w12, .val w13, .val w14, .val .null, .val (.ref b33), .val (.ref b35)] []))
    refine own_go (fun _ => XS.iconst X45.here hx rfl (hb hby at_293)) ?_
    show own_Go p.tables e below _ (T45.setTop (mkF m 294 #[.val (.int p1), .val (.int p2), .val (.int p3), .val (.int p4), .val w5, .val w6, .val w7, .val w8, .val w9, .val w10, .val w11, .val w12, .val w13, .val w14, .val .null, .val (.ref b33), .val (.ref b35)] [(.int (1 : Int32))]))
    refine own_go (fun _ => XS.goto X45.here hx rfl (pc0 := 294) (pc' := 298) rfl (hb hby at_294) (by decide) (by decide)) ?_
    show own_Go p.tables e below _ (T45.setTop (mkF m 298 #[.val (.int p1), .val (.int p2), .val (.int p3), .val (.int p4), .val w5, .val w6, .val w7, .val w8, .val w9, .val w10, .val w11, .val w12, .val w13, .val w14, .val .null, .val (.ref b33), .val (.ref b35)] [(.int (1 : Int32))]))
    refine own_retN X45 Bd.notSynchronized hx (t := .boolean) Bd.returns (by simp) (hb hby at_298) (show Q0 Z p1 p2 p3 p4 csz h0 n0 _ T45.heap _ from by rw [e45]; exact ⟨rfl, N45⟩) (by decide) (by decide)
set_option maxRecDepth 65536 in
set_option maxHeartbeats 40000000 in
theorem comes_1 {Post : Tables → Env → Array Value → State → Outcome → State → Prop} (hpost : ∀ tb e args s v u, (limb_1_1.after args s (.returned v) u = true ∧ limb_1_2.after args s (.returned v) u = true ∧ True) → FrameEnd s (.returned v) u (Jvm.fieldLocs frame_1_writes args s ++ Jvm.arrayLocs frame_1_arrays args s ++ Jvm.staticLocs frame_1_statics s) 88 256 → Post tb e args s (.returned v) u) :
    ArmFor flags0 classFile x code maxLocals ret World_1 tables_1 room_1 Calls_1 rest_1 Pre_1 Post := by
  intro l hfl _ _ p e ha hc hk s m args below hf hA hF happ hP
  obtain ⟨hcalls, hrest, hpre⟩ := hP
  obtain ⟨-, -, -, hnamed, -, -, -, hat⟩ := (Spec.applies_iff hf).mp happ
  obtain ⟨hg, hn⟩ := and_e (Cond.before_iff.mp (show (Jvm.Cond.and given_1 narrow_1).before args s = true from hpre))
  obtain ⟨g1, g2⟩ := and_e hg
  obtain ⟨g3, g4⟩ := and_e g2
  obtain ⟨g5, g6⟩ := and_e g4
  obtain ⟨g7, g8⟩ := and_e g6
  obtain ⟨w0, w1, w2, w3, rfl⟩ : ∃ w0 w1 w2 w3 : Value, args = #[w0, w1, w2, w3] := by
    have hs : args.size = 4 := by simpa [Cond.value, given_1] using g1
    obtain ⟨L⟩ := args
    match L, hs with
    | [w0, w1, w2, w3], _ => exact ⟨w0, w1, w2, w3, rfl⟩
  have hw := fun d (hd : d ∈ tables_1) => atoms_spec (ws := Jvm.Cond.code x code maxLocals ret :: tables_1) hat d (List.mem_cons_of_mem _ hd)
  have hfit : Fit s := fun {y c} hc i hi => by
    obtain ⟨ha, rfl⟩ := Array.getElem?_eq_some_iff.mp hc
    have q := List.all_eq_true.mp ((Array.all_eq_true_iff_forall_mem.mp hF) _ (Array.getElem_mem ha)) i (List.mem_range.mpr hi)
    simpa [Array.getElem?_eq_getElem hi] using q
  obtain ⟨hsets, hown0⟩ := atoms_of _ (rest_1_c_eq ▸ (show rest_1_c.before _ s = true from hrest))
  have hr0 := Cond.before_iff.mp hown0
  obtain ⟨i0, ei0⟩ := is_v g3
  obtain rfl : w0 = (.int i0) := Option.some.inj ei0
  obtain ⟨i1, ei1⟩ := is_v g5
  obtain rfl : w1 = (.int i1) := Option.some.inj ei1
  obtain ⟨i2, ei2⟩ := is_v g7
  obtain rfl : w2 = (.int i2) := Option.some.inj ei2
  obtain ⟨i3, ei3⟩ := is_v g8
  obtain rfl : w3 = (.int i3) := Option.some.inj ei3
  have n5 := not_v (Cond.before_iff.mp (hsets _ (List.mem_of_getElem? (i := 2) rfl)))
  obtain ⟨iC, eC⟩ := is_v (Cond.before_iff.mp (hsets _ (List.mem_of_getElem? (i := 1) rfl)))
  have SC : Sta s s.heap "java/lang/String" "COMPACT_STRINGS" "Z" (.int iC) := Sta.start eC (Or.inl (hsets _ (List.mem_of_getElem? (i := 0) rfl)))
  have nC : ¬ (iC = (0 : Int32)) := gotF (Cond.eq_ints eC (Term.int_eval (0))) n5
  obtain ⟨n, o, h1, h2, h3, _, L, rfl, ⟨rfl, N⟩, hq⟩ := rm0 l s _ hw tables_1 i0 i1 i2 i3 iC s.heap s.heap.size (Nat.le_refl _) SC nC (Old.start s) p e ha hc hk s m _ below hf ((Spec.applies_iff_loose hf).mp happ).1 ⟨rfl, State.Warmed39.refl s, rfl⟩ trivial
  refine ⟨n, _, h1, h2, h3, hpost _ _ _ _ _ _ ⟨Cond.after_iff.mpr rfl, Cond.after_iff.mpr (eq_i res_at (Term.int_eval (1)) rfl), trivial⟩ ⟨hq.1, hq.2.1, (hq.2.2.sift fun y hy => Or.inr (N y hy)).mono (by decide) (by decide)⟩⟩
theorem main_1_1 : Claimed_1_1 := comes_1 fun _ _ _ _ _ _ h hF => ⟨h.1, hF⟩
theorem main_1_2 : Claimed_1_2 := comes_1 fun _ _ _ _ _ _ h hF => ⟨h.2.1, hF⟩
end Jvm.Pilot.@@N@@
namespace Jvm.Pilot.@@N@@
open Jvm Jvm.ClassFile Sem Op Lib Jvm.Free Jvm.Stand Jvm.Pilot.@@N@@.Jvm.D
/-! MADE BY PROGRAM (witnessworld.py) out of the Statement's table words and the real class files: 22 classes; the members and pool entries that the words name. The judged class is class 1, her method 2. -/
namespace start1
open Jvm.ClassFile
def u (s : String) : CpInfo := .utf8 (stringToUtf16 s)
/-- a pool by its gaps: so many unusable entries, then the entry; so many at the end -/
def gap : Nat → List CpInfo → List CpInfo
  | 0, r => r
  | n + 1, r => .unusable :: gap n r
def poolList (es : List (Nat × CpInfo)) (last : Nat) : List CpInfo := es.foldr (fun e r => gap e.1 (e.2 :: r)) (gap last [])
def pool (es : List (Nat × CpInfo)) (last : Nat) : Array CpInfo := ⟨poolList es last⟩
def fileOf (pool : Array CpInfo) (this : Nat) (attrs : Array Attribute := #[]) (ms : Array MethodInfo := #[]) (fl : Nat := 33) (sup : Nat := 0) (ifs : Array Nat := #[]) (fds : Array FieldInfo := #[]) : ClassFile where
  minorVersion := 0
  majorVersion := 65
  constantPool := pool
  accessFlags := fl
  thisClass := this
  superClass := sup
  interfaces := ifs
  fields := fds
  methods := ms
  attributes := attrs
def plain (name : String) (sup : Option ClassId) : Class where
  name := name
  kind := .ordinary
  loader := none
  accessFlags := 33
  super := sup
  interfaces := #[]
  cf := none
  fields := #[]
  methods := #[]
  instanceTypes := #[]
  staticTypes := #[]
  resolved := #[]
  callSites := []
  init := .initialized
  statics := none
  mirror := none

def pool0 : Array CpInfo := pool [(5, u "<init>"), (0, u "()V"), (1, .class_ 10), (1, u "java/lang/Object")] 113

def k0c0 : Code := { maxStack := 0, maxLocals := 1, code := object_method_1_code, exceptionTable := #[], attributes := #[] }
def k0m0 : Method := { name := "<init>", desc := "()V", sig := { parameters := [], returnType := none }, accessFlags := 1, code := some k0c0 }
/-- java/lang/Object -/
def k0 : Class := { plain "java/lang/Object" none with
  accessFlags := 33
  interfaces := #[]
  cf := some (fileOf pool0 8 #[] #[{ accessFlags := 1, nameIndex := 5, descriptorIndex := 6, attributes := #[] }] 33 0 #[] #[])
  fields := #[]
  methods := #[k0m0]
  instanceTypes := #[]
  staticTypes := #[]
  resolved := Array.replicate 124 none
  statics := none }

def pool1 : Array CpInfo := pool [(2, .class_ 4), (1, u "java/lang/Object"), (0, u "<init>"), (0, u "()V"), (0, .class_ 8), (0, u "java/lang/String"), (0, .methodref 7 10), (0, .nameAndType 5 11), (0, u "([C)V"), (0, .methodref 13 14), (0, .class_ 15), (0, .nameAndType 16 17), (0, u "com/example/attesta/attesta/contract/MalattiaWithDataFinePinLaw"), (0, u "mk"), (0, u "(IIII)Ljava/lang/String;"), (0, .class_ 19), (0, u "com/example/attesta/attesta/contract/Diagnosi"), (0, .methodref 18 21), (0, .nameAndType 5 22), (0, u "(Ljava/lang/String;Ljava/lang/String;)V"), (0, .class_ 24), (0, u "com/example/attesta/attesta/contract/Malattia"), (0, .methodref 23 26), (0, .nameAndType 5 27), (0, u "(Ljava/lang/String;Ljava/lang/String;Ljava/lang/String;Ljava/lang/String;Ljava/lang/String;Ljava/lang/String;Lcom/example/attesta/attesta/contract/Diagnosi;Ljava/lang/String;Ljava/lang/String;Ljava/lang/String;)V"), (0, .methodref 23 29), (0, .nameAndType 30 31), (0, u "withDataFine"), (0, u "(Ljava/lang/String;)Lcom/example/attesta/attesta/contract/Malattia;"), (0, .methodref 23 33), (0, .nameAndType 34 35), (0, u "ruoloMedico"), (0, u "()Ljava/lang/String;"), (0, .methodref 23 37), (0, .nameAndType 38 35), (0, u "dataRilascio"), (0, .methodref 23 40), (0, .nameAndType 41 35), (0, u "dataInizio"), (0, .methodref 23 43), (0, .nameAndType 44 35), (0, u "dataFine"), (0, .methodref 23 46), (0, .nameAndType 47 35), (0, u "visita"), (0, .methodref 23 49), (0, .nameAndType 50 35), (0, u "tipoCertificato"), (0, .methodref 23 52), (0, .nameAndType 53 54), (0, u "diagnosi"), (0, u "()Lcom/example/attesta/attesta/contract/Diagnosi;"), (0, .methodref 23 56), (0, .nameAndType 57 35), (0, u "giornataLavorata"), (0, .methodref 23 59), (0, .nameAndType 60 35), (0, u "trauma"), (0, .methodref 23 62), (0, .nameAndType 63 35), (0, u "agevolazioni"), (3, u "law"), (0, u "(IIII)Z")] 2

def k1m0 : Method := { name := "<init>", desc := "()V", sig := { parameters := [], returnType := none }, accessFlags := 1, code := none }
def k1c1 : Code := { maxStack := 4, maxLocals := 5, code := method_2_code, exceptionTable := #[], attributes := #[] }
def k1m1 : Method := { name := "mk", desc := "(IIII)Ljava/lang/String;", sig := { parameters := [.int, .int, .int, .int], returnType := some (.object "java/lang/String") }, accessFlags := 10, code := some k1c1 }
def k1c2 : Code := { maxStack := 12, maxLocals := 17, code := code, exceptionTable := #[], attributes := #[] }
def k1m2 : Method := { name := "law", desc := "(IIII)Z", sig := { parameters := [.int, .int, .int, .int], returnType := some .boolean }, accessFlags := 9, code := some k1c2 }
/-- com/example/attesta/attesta/contract/MalattiaWithDataFinePinLaw -/
def k1 : Class := { plain "com/example/attesta/attesta/contract/MalattiaWithDataFinePinLaw" (some 0) with
  accessFlags := 49
  interfaces := #[]
  cf := some (fileOf pool1 13 #[] #[{ accessFlags := 1, nameIndex := 5, descriptorIndex := 6, attributes := #[] }, { accessFlags := 10, nameIndex := 16, descriptorIndex := 17, attributes := #[] }, { accessFlags := 9, nameIndex := 67, descriptorIndex := 68, attributes := #[] }] 49 2 #[] #[])
  fields := #[]
  methods := #[k1m0, k1m1, k1m2]
  instanceTypes := #[]
  staticTypes := #[]
  resolved := Array.replicate 71 none
  statics := none }

def pool2 : Array CpInfo := pool [(1, .class_ 2), (0, u "java/io/Serializable"), (0, .class_ 4), (0, u "java/lang/Object")] 2

/-- java/io/Serializable -/
def k2 : Class := { plain "java/io/Serializable" (some 0) with
  accessFlags := 1537
  interfaces := #[]
  cf := some (fileOf pool2 1 #[] #[] 1537 3 #[] #[])
  fields := #[]
  methods := #[]
  instanceTypes := #[]
  staticTypes := #[]
  resolved := Array.replicate 7 none
  statics := none }

def pool3 : Array CpInfo := pool [(1, .class_ 2), (0, u "java/lang/Comparable"), (0, .class_ 4), (0, u "java/lang/Object")] 7

/-- java/lang/Comparable -/
def k3 : Class := { plain "java/lang/Comparable" (some 0) with
  accessFlags := 1537
  interfaces := #[]
  cf := some (fileOf pool3 1 #[] #[] 1537 3 #[] #[])
  fields := #[]
  methods := #[]
  instanceTypes := #[]
  staticTypes := #[]
  resolved := Array.replicate 12 none
  statics := none }

def pool4 : Array CpInfo := pool [(2, .class_ 4), (1, u "java/lang/CharSequence"), (42, .class_ 48), (0, u "java/lang/CharSequence$1CodePointIterator"), (10, .class_ 60), (0, u "java/lang/CharSequence$1CharIterator"), (5, .class_ 67), (0, u "java/lang/Object")] 63

/-- java/lang/CharSequence -/
def k4 : Class := { plain "java/lang/CharSequence" (some 0) with
  accessFlags := 1537
  interfaces := #[]
  cf := some (fileOf pool4 2 #[.nestMembers #[47, 59]] #[] 1537 66 #[] #[])
  fields := #[]
  methods := #[]
  instanceTypes := #[]
  staticTypes := #[]
  resolved := Array.replicate 131 none
  statics := none }

def pool5 : Array CpInfo := pool [(1, .class_ 2), (0, u "java/lang/constant/Constable"), (0, .class_ 4), (0, u "java/lang/Object")] 6

/-- java/lang/constant/Constable -/
def k5 : Class := { plain "java/lang/constant/Constable" (some 0) with
  accessFlags := 1537
  interfaces := #[]
  cf := some (fileOf pool5 1 #[] #[] 1537 3 #[] #[])
  fields := #[]
  methods := #[]
  instanceTypes := #[]
  staticTypes := #[]
  resolved := Array.replicate 11 none
  statics := none }

def pool6 : Array CpInfo := pool [(1, .class_ 2), (0, u "java/lang/constant/ConstantDesc"), (0, .class_ 4), (0, u "java/lang/Object")] 32

/-- java/lang/constant/ConstantDesc -/
def k6 : Class := { plain "java/lang/constant/ConstantDesc" (some 0) with
  accessFlags := 1537
  interfaces := #[]
  cf := some (fileOf pool6 1 #[] #[] 1537 3 #[] #[])
  fields := #[]
  methods := #[]
  instanceTypes := #[]
  staticTypes := #[]
  resolved := Array.replicate 37 none
  statics := none }

def pool7 : Array CpInfo := pool [(1, .methodref 2 3), (0, .class_ 4), (0, .nameAndType 5 6), (0, u "java/lang/Object"), (0, u "<init>"), (0, u "()V"), (2, .fieldref 10 11), (0, .class_ 12), (0, .nameAndType 13 14), (0, u "java/lang/String"), (0, u "value"), (0, u "[B"), (0, .fieldref 10 16), (0, .nameAndType 17 18), (0, u "coder"), (0, u "B"), (2, u "hash"), (0, u "I"), (2, u "hashIsZero"), (0, u "Z"), (0, .methodref 10 28), (0, .nameAndType 5 29), (0, u "([CIILjava/lang/Void;)V"), (8, .fieldref 10 39), (0, .nameAndType 40 26), (0, u "COMPACT_STRINGS"), (1, .class_ 44), (1, u "java/lang/StringUTF16"), (0, u "compress"), (1, .methodref 42 48), (0, .nameAndType 49 50), (0, u "coderFromArrayLen"), (0, u "([BI)B"), (126, .methodref 42 178), (0, .nameAndType 45 179), (0, u "([CII)[B"), (395, .class_ 576), (0, u "java/lang/CharSequence"), (22, u "CASE_INSENSITIVE_ORDER"), (0, u "Ljava/util/Comparator;"), (409, u "([C)V"), (90, u "serialPersistentFields"), (0, u "[Ljava/io/ObjectStreamField;"), (0, .class_ 1104), (0, u "java/lang/String$CaseInsensitiveComparator"), (1, .class_ 1107), (0, u "java/io/Serializable"), (0, .class_ 1109), (0, u "java/lang/Comparable"), (0, .class_ 1111), (0, u "java/lang/constant/Constable"), (0, .class_ 1113), (0, u "java/lang/constant/ConstantDesc"), (2, u "serialVersionUID"), (0, u "J"), (3, u "REPL"), (0, u "C"), (2, u "LATIN1"), (1, u "UTF16")] 323

def k7m0 : Method := { name := "<init>", desc := "()V", sig := { parameters := [], returnType := none }, accessFlags := 1, code := none }
def k7c1 : Code := { maxStack := 5, maxLocals := 2, code := jdk_42_method_3_code, exceptionTable := #[], attributes := #[] }
def k7m1 : Method := { name := "<init>", desc := "([C)V", sig := { parameters := [(.array .char)], returnType := none }, accessFlags := 1, code := some k7c1 }
def k7c2 : Code := { maxStack := 4, maxLocals := 6, code := jdk_42_method_149_code, exceptionTable := #[], attributes := #[] }
def k7m2 : Method := { name := "<init>", desc := "([CIILjava/lang/Void;)V", sig := { parameters := [(.array .char), .int, .int, (.object "java/lang/Void")], returnType := none }, accessFlags := 2, code := some k7c2 }
/-- java/lang/String -/
def k7 : Class := { plain "java/lang/String" (some 0) with
  accessFlags := 49
  interfaces := #[2, 3, 4, 5, 6]
  cf := some (fileOf pool7 10 #[.nestMembers #[1103]] #[{ accessFlags := 1, nameIndex := 5, descriptorIndex := 6, attributes := #[] }, { accessFlags := 1, nameIndex := 5, descriptorIndex := 1010, attributes := #[] }, { accessFlags := 2, nameIndex := 5, descriptorIndex := 29, attributes := #[] }] 49 2 #[1106, 1108, 575, 1110, 1112] #[{ accessFlags := 18, nameIndex := 13, descriptorIndex := 14, attributes := #[] }, { accessFlags := 18, nameIndex := 17, descriptorIndex := 18, attributes := #[] }, { accessFlags := 2, nameIndex := 21, descriptorIndex := 22, attributes := #[] }, { accessFlags := 2, nameIndex := 25, descriptorIndex := 26, attributes := #[] }, { accessFlags := 26, nameIndex := 1116, descriptorIndex := 1117, attributes := #[] }, { accessFlags := 24, nameIndex := 40, descriptorIndex := 26, attributes := #[] }, { accessFlags := 26, nameIndex := 1101, descriptorIndex := 1102, attributes := #[] }, { accessFlags := 26, nameIndex := 1121, descriptorIndex := 1122, attributes := #[] }, { accessFlags := 25, nameIndex := 599, descriptorIndex := 600, attributes := #[] }, { accessFlags := 24, nameIndex := 1125, descriptorIndex := 18, attributes := #[] }, { accessFlags := 24, nameIndex := 1127, descriptorIndex := 18, attributes := #[] }])
  fields := #[{ name := "value", type := (.array .byte), accessFlags := 18, slot := 0, constantValue := 0 }, { name := "coder", type := .byte, accessFlags := 18, slot := 1, constantValue := 0 }, { name := "hash", type := .int, accessFlags := 2, slot := 2, constantValue := 0 }, { name := "hashIsZero", type := .boolean, accessFlags := 2, slot := 3, constantValue := 0 }, { name := "serialVersionUID", type := .long, accessFlags := 26, slot := 0, constantValue := 0 }, { name := "COMPACT_STRINGS", type := .boolean, accessFlags := 24, slot := 1, constantValue := 0 }, { name := "serialPersistentFields", type := (.array (.object "java/io/ObjectStreamField")), accessFlags := 26, slot := 2, constantValue := 0 }, { name := "REPL", type := .char, accessFlags := 26, slot := 3, constantValue := 0 }, { name := "CASE_INSENSITIVE_ORDER", type := (.object "java/util/Comparator"), accessFlags := 25, slot := 4, constantValue := 0 }, { name := "LATIN1", type := .byte, accessFlags := 24, slot := 5, constantValue := 0 }, { name := "UTF16", type := .byte, accessFlags := 24, slot := 6, constantValue := 0 }]
  methods := #[k7m0, k7m1, k7m2]
  instanceTypes := #[(.array .byte), .byte, .int, .boolean]
  staticTypes := #[.long, .boolean, (.array (.object "java/io/ObjectStreamField")), .char, (.object "java/util/Comparator"), .byte, .byte]
  resolved := Array.replicate 1451 none
  statics := some 0 }

def pool8 : Array CpInfo := pool [(6, .class_ 8), (1, u "java/lang/Object"), (0, u "<init>"), (0, u "()V"), (1, .class_ 14), (1, u "java/lang/StringUTF16"), (31, u "$assertionsDisabled"), (0, u "Z"), (13, u "HI_BYTE_SHIFT"), (0, u "I"), (2, u "LO_BYTE_SHIFT"), (49, .methodref 12 116), (0, .nameAndType 117 118), (0, u "compress"), (0, u "([CI[BII)I"), (3, u "([CII)[B"), (138, u "coderFromArrayLen"), (0, u "([BI)B"), (106, .class_ 371), (1, u "java/lang/StringUTF16$LinesSpliterator"), (58, u "MAX_LENGTH"), (196, .class_ 628), (0, u "java/lang/StringUTF16$CodePointsSpliterator"), (0, .class_ 630), (0, u "java/lang/StringUTF16$CharsSpliterator")] 4

def k8m0 : Method := { name := "<init>", desc := "()V", sig := { parameters := [], returnType := none }, accessFlags := 0, code := none }
def k8c1 : Code := { maxStack := 2, maxLocals := 2, code := jdk_52_method_15_code, exceptionTable := #[], attributes := #[] }
def k8m1 : Method := { name := "coderFromArrayLen", desc := "([BI)B", sig := { parameters := [(.array .byte), .int], returnType := some .byte }, accessFlags := 8, code := some k8c1 }
def k8c2 : Code := { maxStack := 5, maxLocals := 6, code := jdk_52_method_16_code, exceptionTable := #[], attributes := #[] }
def k8m2 : Method := { name := "compress", desc := "([CII)[B", sig := { parameters := [(.array .char), .int, .int], returnType := some (.array .byte) }, accessFlags := 9, code := some k8c2 }
def k8c3 : Code := { maxStack := 3, maxLocals := 7, code := jdk_52_method_21_code, exceptionTable := #[], attributes := #[] }
def k8m3 : Method := { name := "compress", desc := "([CI[BII)I", sig := { parameters := [(.array .char), .int, (.array .byte), .int, .int], returnType := some .int }, accessFlags := 9, code := some k8c3 }
/-- java/lang/StringUTF16 -/
def k8 : Class := { plain "java/lang/StringUTF16" (some 0) with
  accessFlags := 48
  interfaces := #[]
  cf := some (fileOf pool8 12 #[.nestMembers #[627, 629, 369]] #[{ accessFlags := 0, nameIndex := 9, descriptorIndex := 10, attributes := #[] }, { accessFlags := 8, nameIndex := 261, descriptorIndex := 262, attributes := #[] }, { accessFlags := 9, nameIndex := 117, descriptorIndex := 122, attributes := #[] }, { accessFlags := 9, nameIndex := 117, descriptorIndex := 118, attributes := #[] }] 48 6 #[] #[{ accessFlags := 26, nameIndex := 61, descriptorIndex := 62, attributes := #[] }, { accessFlags := 26, nameIndex := 65, descriptorIndex := 62, attributes := #[] }, { accessFlags := 24, nameIndex := 430, descriptorIndex := 62, attributes := #[] }, { accessFlags := 4120, nameIndex := 46, descriptorIndex := 47, attributes := #[] }])
  fields := #[{ name := "HI_BYTE_SHIFT", type := .int, accessFlags := 26, slot := 0, constantValue := 0 }, { name := "LO_BYTE_SHIFT", type := .int, accessFlags := 26, slot := 1, constantValue := 0 }, { name := "MAX_LENGTH", type := .int, accessFlags := 24, slot := 2, constantValue := 0 }, { name := "$assertionsDisabled", type := .boolean, accessFlags := 4120, slot := 3, constantValue := 0 }]
  methods := #[k8m0, k8m1, k8m2, k8m3]
  instanceTypes := #[]
  staticTypes := #[.int, .int, .int, .boolean]
  resolved := Array.replicate 635 none
  statics := none }

def pool9 : Array CpInfo := pool [(1, .methodref 2 3), (0, .class_ 4), (0, .nameAndType 5 6), (0, u "java/lang/Object"), (0, u "<init>"), (0, u "()V"), (0, .class_ 8), (0, u "java/lang/Record")] 13

def k9c0 : Code := { maxStack := 1, maxLocals := 1, code := jdk_30_method_1_code, exceptionTable := #[], attributes := #[] }
def k9m0 : Method := { name := "<init>", desc := "()V", sig := { parameters := [], returnType := none }, accessFlags := 4, code := some k9c0 }
/-- java/lang/Record -/
def k9 : Class := { plain "java/lang/Record" (some 0) with
  accessFlags := 1057
  interfaces := #[]
  cf := some (fileOf pool9 7 #[] #[{ accessFlags := 4, nameIndex := 5, descriptorIndex := 6, attributes := #[] }] 1057 2 #[] #[])
  fields := #[]
  methods := #[k9m0]
  instanceTypes := #[]
  staticTypes := #[]
  resolved := Array.replicate 22 none
  statics := none }

def pool10 : Array CpInfo := pool [(1, .methodref 2 3), (0, .class_ 4), (0, .nameAndType 5 6), (0, u "java/lang/Record"), (0, u "<init>"), (0, u "()V"), (0, .fieldref 8 9), (0, .class_ 10), (0, .nameAndType 11 12), (0, u "com/example/attesta/attesta/contract/Diagnosi"), (0, u "codiceDiagnosi"), (0, u "Ljava/lang/String;"), (0, .fieldref 8 14), (0, .nameAndType 15 12), (0, u "noteDiagnosi"), (12, u "(Ljava/lang/String;Ljava/lang/String;)V")] 27

def k10c0 : Code := { maxStack := 2, maxLocals := 3, code := prog_17_method_1_code, exceptionTable := #[], attributes := #[] }
def k10m0 : Method := { name := "<init>", desc := "(Ljava/lang/String;Ljava/lang/String;)V", sig := { parameters := [(.object "java/lang/String"), (.object "java/lang/String")], returnType := none }, accessFlags := 1, code := some k10c0 }
/-- com/example/attesta/attesta/contract/Diagnosi -/
def k10 : Class := { plain "com/example/attesta/attesta/contract/Diagnosi" (some 9) with
  accessFlags := 49
  interfaces := #[]
  cf := some (fileOf pool10 8 #[] #[{ accessFlags := 1, nameIndex := 5, descriptorIndex := 28, attributes := #[] }] 49 2 #[] #[{ accessFlags := 18, nameIndex := 11, descriptorIndex := 12, attributes := #[] }, { accessFlags := 18, nameIndex := 15, descriptorIndex := 12, attributes := #[] }])
  fields := #[{ name := "codiceDiagnosi", type := (.object "java/lang/String"), accessFlags := 18, slot := 0, constantValue := 0 }, { name := "noteDiagnosi", type := (.object "java/lang/String"), accessFlags := 18, slot := 1, constantValue := 0 }]
  methods := #[k10m0]
  instanceTypes := #[(.object "java/lang/String"), (.object "java/lang/String")]
  staticTypes := #[]
  resolved := Array.replicate 56 none
  statics := none }

def pool11 : Array CpInfo := pool [(1, .methodref 2 3), (0, .class_ 4), (0, .nameAndType 5 6), (0, u "java/lang/Record"), (0, u "<init>"), (0, u "()V"), (0, .fieldref 8 9), (0, .class_ 10), (0, .nameAndType 11 12), (0, u "com/example/attesta/attesta/contract/Malattia"), (0, u "ruoloMedico"), (0, u "Ljava/lang/String;"), (0, .fieldref 8 14), (0, .nameAndType 15 12), (0, u "dataRilascio"), (0, .fieldref 8 17), (0, .nameAndType 18 12), (0, u "dataInizio"), (0, .fieldref 8 20), (0, .nameAndType 21 12), (0, u "dataFine"), (0, .fieldref 8 23), (0, .nameAndType 24 12), (0, u "visita"), (0, .fieldref 8 26), (0, .nameAndType 27 12), (0, u "tipoCertificato"), (0, .fieldref 8 29), (0, .nameAndType 30 31), (0, u "diagnosi"), (0, u "Lcom/example/attesta/attesta/contract/Diagnosi;"), (0, .fieldref 8 33), (0, .nameAndType 34 12), (0, u "giornataLavorata"), (0, .fieldref 8 36), (0, .nameAndType 37 12), (0, u "trauma"), (0, .fieldref 8 39), (0, .nameAndType 40 12), (0, u "agevolazioni"), (0, .methodref 8 42), (0, .nameAndType 5 43), (0, u "(Ljava/lang/String;Ljava/lang/String;Ljava/lang/String;Ljava/lang/String;Ljava/lang/String;Ljava/lang/String;Lcom/example/attesta/attesta/contract/Diagnosi;Ljava/lang/String;Ljava/lang/String;Ljava/lang/String;)V"), (15, u "withDataFine"), (0, u "(Ljava/lang/String;)Lcom/example/attesta/attesta/contract/Malattia;"), (0, u "()Ljava/lang/String;"), (2, u "()Lcom/example/attesta/attesta/contract/Diagnosi;")] 29

def k11c0 : Code := { maxStack := 2, maxLocals := 11, code := prog_32_method_1_code, exceptionTable := #[], attributes := #[] }
def k11m0 : Method := { name := "<init>", desc := "(Ljava/lang/String;Ljava/lang/String;Ljava/lang/String;Ljava/lang/String;Ljava/lang/String;Ljava/lang/String;Lcom/example/attesta/attesta/contract/Diagnosi;Ljava/lang/String;Ljava/lang/String;Ljava/lang/String;)V", sig := { parameters := [(.object "java/lang/String"), (.object "java/lang/String"), (.object "java/lang/String"), (.object "java/lang/String"), (.object "java/lang/String"), (.object "java/lang/String"), (.object "com/example/attesta/attesta/contract/Diagnosi"), (.object "java/lang/String"), (.object "java/lang/String"), (.object "java/lang/String")], returnType := none }, accessFlags := 1, code := some k11c0 }
def k11c1 : Code := { maxStack := 12, maxLocals := 2, code := prog_32_method_2_code, exceptionTable := #[], attributes := #[] }
def k11m1 : Method := { name := "withDataFine", desc := "(Ljava/lang/String;)Lcom/example/attesta/attesta/contract/Malattia;", sig := { parameters := [(.object "java/lang/String")], returnType := some (.object "com/example/attesta/attesta/contract/Malattia") }, accessFlags := 1, code := some k11c1 }
def k11c2 : Code := { maxStack := 1, maxLocals := 1, code := prog_32_method_6_code, exceptionTable := #[], attributes := #[] }
def k11m2 : Method := { name := "ruoloMedico", desc := "()Ljava/lang/String;", sig := { parameters := [], returnType := some (.object "java/lang/String") }, accessFlags := 1, code := some k11c2 }
def k11c3 : Code := { maxStack := 1, maxLocals := 1, code := prog_32_method_7_code, exceptionTable := #[], attributes := #[] }
def k11m3 : Method := { name := "dataRilascio", desc := "()Ljava/lang/String;", sig := { parameters := [], returnType := some (.object "java/lang/String") }, accessFlags := 1, code := some k11c3 }
def k11c4 : Code := { maxStack := 1, maxLocals := 1, code := prog_32_method_8_code, exceptionTable := #[], attributes := #[] }
def k11m4 : Method := { name := "dataInizio", desc := "()Ljava/lang/String;", sig := { parameters := [], returnType := some (.object "java/lang/String") }, accessFlags := 1, code := some k11c4 }
def k11c5 : Code := { maxStack := 1, maxLocals := 1, code := prog_32_method_9_code, exceptionTable := #[], attributes := #[] }
def k11m5 : Method := { name := "dataFine", desc := "()Ljava/lang/String;", sig := { parameters := [], returnType := some (.object "java/lang/String") }, accessFlags := 1, code := some k11c5 }
def k11c6 : Code := { maxStack := 1, maxLocals := 1, code := prog_32_method_10_code, exceptionTable := #[], attributes := #[] }
def k11m6 : Method := { name := "visita", desc := "()Ljava/lang/String;", sig := { parameters := [], returnType := some (.object "java/lang/String") }, accessFlags := 1, code := some k11c6 }
def k11c7 : Code := { maxStack := 1, maxLocals := 1, code := prog_32_method_11_code, exceptionTable := #[], attributes := #[] }
def k11m7 : Method := { name := "tipoCertificato", desc := "()Ljava/lang/String;", sig := { parameters := [], returnType := some (.object "java/lang/String") }, accessFlags := 1, code := some k11c7 }
def k11c8 : Code := { maxStack := 1, maxLocals := 1, code := prog_32_method_12_code, exceptionTable := #[], attributes := #[] }
def k11m8 : Method := { name := "diagnosi", desc := "()Lcom/example/attesta/attesta/contract/Diagnosi;", sig := { parameters := [], returnType := some (.object "com/example/attesta/attesta/contract/Diagnosi") }, accessFlags := 1, code := some k11c8 }
def k11c9 : Code := { maxStack := 1, maxLocals := 1, code := prog_32_method_13_code, exceptionTable := #[], attributes := #[] }
def k11m9 : Method := { name := "giornataLavorata", desc := "()Ljava/lang/String;", sig := { parameters := [], returnType := some (.object "java/lang/String") }, accessFlags := 1, code := some k11c9 }
def k11c10 : Code := { maxStack := 1, maxLocals := 1, code := prog_32_method_14_code, exceptionTable := #[], attributes := #[] }
def k11m10 : Method := { name := "trauma", desc := "()Ljava/lang/String;", sig := { parameters := [], returnType := some (.object "java/lang/String") }, accessFlags := 1, code := some k11c10 }
def k11c11 : Code := { maxStack := 1, maxLocals := 1, code := prog_32_method_15_code, exceptionTable := #[], attributes := #[] }
def k11m11 : Method := { name := "agevolazioni", desc := "()Ljava/lang/String;", sig := { parameters := [], returnType := some (.object "java/lang/String") }, accessFlags := 1, code := some k11c11 }
/-- com/example/attesta/attesta/contract/Malattia -/
def k11 : Class := { plain "com/example/attesta/attesta/contract/Malattia" (some 9) with
  accessFlags := 49
  interfaces := #[]
  cf := some (fileOf pool11 8 #[] #[{ accessFlags := 1, nameIndex := 5, descriptorIndex := 43, attributes := #[] }, { accessFlags := 1, nameIndex := 59, descriptorIndex := 60, attributes := #[] }, { accessFlags := 1, nameIndex := 11, descriptorIndex := 61, attributes := #[] }, { accessFlags := 1, nameIndex := 15, descriptorIndex := 61, attributes := #[] }, { accessFlags := 1, nameIndex := 18, descriptorIndex := 61, attributes := #[] }, { accessFlags := 1, nameIndex := 21, descriptorIndex := 61, attributes := #[] }, { accessFlags := 1, nameIndex := 24, descriptorIndex := 61, attributes := #[] }, { accessFlags := 1, nameIndex := 27, descriptorIndex := 61, attributes := #[] }, { accessFlags := 1, nameIndex := 30, descriptorIndex := 64, attributes := #[] }, { accessFlags := 1, nameIndex := 34, descriptorIndex := 61, attributes := #[] }, { accessFlags := 1, nameIndex := 37, descriptorIndex := 61, attributes := #[] }, { accessFlags := 1, nameIndex := 40, descriptorIndex := 61, attributes := #[] }] 49 2 #[] #[{ accessFlags := 18, nameIndex := 11, descriptorIndex := 12, attributes := #[] }, { accessFlags := 18, nameIndex := 15, descriptorIndex := 12, attributes := #[] }, { accessFlags := 18, nameIndex := 18, descriptorIndex := 12, attributes := #[] }, { accessFlags := 18, nameIndex := 21, descriptorIndex := 12, attributes := #[] }, { accessFlags := 18, nameIndex := 24, descriptorIndex := 12, attributes := #[] }, { accessFlags := 18, nameIndex := 27, descriptorIndex := 12, attributes := #[] }, { accessFlags := 18, nameIndex := 30, descriptorIndex := 31, attributes := #[] }, { accessFlags := 18, nameIndex := 34, descriptorIndex := 12, attributes := #[] }, { accessFlags := 18, nameIndex := 37, descriptorIndex := 12, attributes := #[] }, { accessFlags := 18, nameIndex := 40, descriptorIndex := 12, attributes := #[] }])
  fields := #[{ name := "ruoloMedico", type := (.object "java/lang/String"), accessFlags := 18, slot := 0, constantValue := 0 }, { name := "dataRilascio", type := (.object "java/lang/String"), accessFlags := 18, slot := 1, constantValue := 0 }, { name := "dataInizio", type := (.object "java/lang/String"), accessFlags := 18, slot := 2, constantValue := 0 }, { name := "dataFine", type := (.object "java/lang/String"), accessFlags := 18, slot := 3, constantValue := 0 }, { name := "visita", type := (.object "java/lang/String"), accessFlags := 18, slot := 4, constantValue := 0 }, { name := "tipoCertificato", type := (.object "java/lang/String"), accessFlags := 18, slot := 5, constantValue := 0 }, { name := "diagnosi", type := (.object "com/example/attesta/attesta/contract/Diagnosi"), accessFlags := 18, slot := 6, constantValue := 0 }, { name := "giornataLavorata", type := (.object "java/lang/String"), accessFlags := 18, slot := 7, constantValue := 0 }, { name := "trauma", type := (.object "java/lang/String"), accessFlags := 18, slot := 8, constantValue := 0 }, { name := "agevolazioni", type := (.object "java/lang/String"), accessFlags := 18, slot := 9, constantValue := 0 }]
  methods := #[k11m0, k11m1, k11m2, k11m3, k11m4, k11m5, k11m6, k11m7, k11m8, k11m9, k11m10, k11m11]
  instanceTypes := #[(.object "java/lang/String"), (.object "java/lang/String"), (.object "java/lang/String"), (.object "java/lang/String"), (.object "java/lang/String"), (.object "java/lang/String"), (.object "com/example/attesta/attesta/contract/Diagnosi"), (.object "java/lang/String"), (.object "java/lang/String"), (.object "java/lang/String")]
  staticTypes := #[]
  resolved := Array.replicate 94 none
  statics := none }

def pool12 : Array CpInfo := pool [(4, .class_ 6), (1, u "java/lang/Object"), (0, u "<init>"), (0, u "()V"), (5, .class_ 16), (1, u "java/lang/StringLatin1"), (104, u "$assertionsDisabled"), (0, u "Z"), (98, .class_ 223), (1, u "java/lang/StringLatin1$LinesSpliterator"), (166, .class_ 391), (0, u "java/lang/StringLatin1$CharsSpliterator")] 3

def k12m0 : Method := { name := "<init>", desc := "()V", sig := { parameters := [], returnType := none }, accessFlags := 0, code := none }
/-- java/lang/StringLatin1 -/
def k12 : Class := { plain "java/lang/StringLatin1" (some 0) with
  accessFlags := 48
  interfaces := #[]
  cf := some (fileOf pool12 14 #[.nestMembers #[390, 221]] #[{ accessFlags := 0, nameIndex := 7, descriptorIndex := 8, attributes := #[] }] 48 4 #[] #[{ accessFlags := 4120, nameIndex := 121, descriptorIndex := 122, attributes := #[] }])
  fields := #[{ name := "$assertionsDisabled", type := .boolean, accessFlags := 4120, slot := 0, constantValue := 0 }]
  methods := #[k12m0]
  instanceTypes := #[]
  staticTypes := #[.boolean]
  resolved := Array.replicate 395 none
  statics := none }

def pool13 : Array CpInfo := pool [(2, .class_ 4), (1, u "java/lang/Object"), (0, u "<init>"), (0, u "()V"), (17, .class_ 26), (1, u "jdk/internal/util/Preconditions"), (28, .class_ 56), (0, u "jdk/internal/util/Preconditions$4"), (57, .class_ 115), (0, u "jdk/internal/util/Preconditions$1"), (7, u "SIOOBE_FORMATTER"), (0, u "Ljava/util/function/BiFunction;"), (0, .class_ 126), (0, u "jdk/internal/util/Preconditions$2"), (3, u "AIOOBE_FORMATTER"), (0, .class_ 132), (0, u "jdk/internal/util/Preconditions$3"), (3, u "IOOBE_FORMATTER")] 57

def k13m0 : Method := { name := "<init>", desc := "()V", sig := { parameters := [], returnType := none }, accessFlags := 1, code := none }
/-- jdk/internal/util/Preconditions -/
def k13 : Class := { plain "jdk/internal/util/Preconditions" (some 0) with
  accessFlags := 33
  interfaces := #[]
  cf := some (fileOf pool13 24 #[.nestMembers #[55, 131, 125, 114]] #[{ accessFlags := 1, nameIndex := 5, descriptorIndex := 6, attributes := #[] }] 33 2 #[] #[{ accessFlags := 25, nameIndex := 123, descriptorIndex := 124, attributes := #[] }, { accessFlags := 25, nameIndex := 130, descriptorIndex := 124, attributes := #[] }, { accessFlags := 25, nameIndex := 136, descriptorIndex := 124, attributes := #[] }])
  fields := #[{ name := "SIOOBE_FORMATTER", type := (.object "java/util/function/BiFunction"), accessFlags := 25, slot := 0, constantValue := 0 }, { name := "AIOOBE_FORMATTER", type := (.object "java/util/function/BiFunction"), accessFlags := 25, slot := 1, constantValue := 0 }, { name := "IOOBE_FORMATTER", type := (.object "java/util/function/BiFunction"), accessFlags := 25, slot := 2, constantValue := 0 }]
  methods := #[k13m0]
  instanceTypes := #[]
  staticTypes := #[(.object "java/util/function/BiFunction"), (.object "java/util/function/BiFunction"), (.object "java/util/function/BiFunction")]
  resolved := Array.replicate 194 none
  statics := some 1 }

def pool14 : Array CpInfo := pool [(9, u "<init>"), (6, .class_ 18), (1, u "java/lang/Object"), (0, u "()V"), (1, .class_ 23), (1, u "jdk/internal/util/ArraysSupport"), (0, u "LOG2_ARRAY_LONG_INDEX_SCALE"), (0, u "I"), (2, u "U"), (0, u "Ljdk/internal/misc/Unsafe;"), (8, u "BIG_ENDIAN"), (0, u "Z"), (8, u "LOG2_BYTE_BIT_SIZE"), (4, u "LOG2_ARRAY_INT_INDEX_SCALE"), (54, u "JLA"), (0, u "Ljdk/internal/access/JavaLangAccess;"), (11, u "LOG2_ARRAY_BOOLEAN_INDEX_SCALE"), (9, u "LOG2_ARRAY_BYTE_INDEX_SCALE"), (5, u "LOG2_ARRAY_CHAR_INDEX_SCALE"), (5, u "LOG2_ARRAY_SHORT_INDEX_SCALE"), (18, u "LOG2_ARRAY_FLOAT_INDEX_SCALE"), (24, u "LOG2_ARRAY_DOUBLE_INDEX_SCALE"), (89, u "T_BOOLEAN"), (2, u "T_CHAR"), (1, u "T_FLOAT"), (1, u "T_DOUBLE"), (1, u "T_BYTE"), (1, u "T_SHORT"), (1, u "T_INT"), (1, u "T_LONG"), (1, u "SOFT_MAX_ARRAY_LENGTH")] 83

def k14m0 : Method := { name := "<init>", desc := "()V", sig := { parameters := [], returnType := none }, accessFlags := 2, code := none }
/-- jdk/internal/util/ArraysSupport -/
def k14 : Class := { plain "jdk/internal/util/ArraysSupport" (some 0) with
  accessFlags := 33
  interfaces := #[]
  cf := some (fileOf pool14 21 #[] #[{ accessFlags := 2, nameIndex := 9, descriptorIndex := 19, attributes := #[] }] 33 16 #[] #[{ accessFlags := 24, nameIndex := 28, descriptorIndex := 29, attributes := #[] }, { accessFlags := 26, nameIndex := 38, descriptorIndex := 39, attributes := #[] }, { accessFlags := 25, nameIndex := 121, descriptorIndex := 25, attributes := #[] }, { accessFlags := 25, nameIndex := 131, descriptorIndex := 25, attributes := #[] }, { accessFlags := 25, nameIndex := 137, descriptorIndex := 25, attributes := #[] }, { accessFlags := 25, nameIndex := 143, descriptorIndex := 25, attributes := #[] }, { accessFlags := 25, nameIndex := 53, descriptorIndex := 25, attributes := #[] }, { accessFlags := 25, nameIndex := 24, descriptorIndex := 25, attributes := #[] }, { accessFlags := 25, nameIndex := 162, descriptorIndex := 25, attributes := #[] }, { accessFlags := 25, nameIndex := 187, descriptorIndex := 25, attributes := #[] }, { accessFlags := 26, nameIndex := 48, descriptorIndex := 25, attributes := #[] }, { accessFlags := 25, nameIndex := 277, descriptorIndex := 25, attributes := #[] }, { accessFlags := 25, nameIndex := 280, descriptorIndex := 25, attributes := #[] }, { accessFlags := 25, nameIndex := 282, descriptorIndex := 25, attributes := #[] }, { accessFlags := 25, nameIndex := 284, descriptorIndex := 25, attributes := #[] }, { accessFlags := 25, nameIndex := 286, descriptorIndex := 25, attributes := #[] }, { accessFlags := 25, nameIndex := 288, descriptorIndex := 25, attributes := #[] }, { accessFlags := 25, nameIndex := 290, descriptorIndex := 25, attributes := #[] }, { accessFlags := 25, nameIndex := 292, descriptorIndex := 25, attributes := #[] }, { accessFlags := 26, nameIndex := 108, descriptorIndex := 109, attributes := #[] }, { accessFlags := 25, nameIndex := 294, descriptorIndex := 25, attributes := #[] }])
  fields := #[{ name := "U", type := (.object "jdk/internal/misc/Unsafe"), accessFlags := 24, slot := 0, constantValue := 0 }, { name := "BIG_ENDIAN", type := .boolean, accessFlags := 26, slot := 1, constantValue := 0 }, { name := "LOG2_ARRAY_BOOLEAN_INDEX_SCALE", type := .int, accessFlags := 25, slot := 2, constantValue := 0 }, { name := "LOG2_ARRAY_BYTE_INDEX_SCALE", type := .int, accessFlags := 25, slot := 3, constantValue := 0 }, { name := "LOG2_ARRAY_CHAR_INDEX_SCALE", type := .int, accessFlags := 25, slot := 4, constantValue := 0 }, { name := "LOG2_ARRAY_SHORT_INDEX_SCALE", type := .int, accessFlags := 25, slot := 5, constantValue := 0 }, { name := "LOG2_ARRAY_INT_INDEX_SCALE", type := .int, accessFlags := 25, slot := 6, constantValue := 0 }, { name := "LOG2_ARRAY_LONG_INDEX_SCALE", type := .int, accessFlags := 25, slot := 7, constantValue := 0 }, { name := "LOG2_ARRAY_FLOAT_INDEX_SCALE", type := .int, accessFlags := 25, slot := 8, constantValue := 0 }, { name := "LOG2_ARRAY_DOUBLE_INDEX_SCALE", type := .int, accessFlags := 25, slot := 9, constantValue := 0 }, { name := "LOG2_BYTE_BIT_SIZE", type := .int, accessFlags := 26, slot := 10, constantValue := 0 }, { name := "T_BOOLEAN", type := .int, accessFlags := 25, slot := 11, constantValue := 0 }, { name := "T_CHAR", type := .int, accessFlags := 25, slot := 12, constantValue := 0 }, { name := "T_FLOAT", type := .int, accessFlags := 25, slot := 13, constantValue := 0 }, { name := "T_DOUBLE", type := .int, accessFlags := 25, slot := 14, constantValue := 0 }, { name := "T_BYTE", type := .int, accessFlags := 25, slot := 15, constantValue := 0 }, { name := "T_SHORT", type := .int, accessFlags := 25, slot := 16, constantValue := 0 }, { name := "T_INT", type := .int, accessFlags := 25, slot := 17, constantValue := 0 }, { name := "T_LONG", type := .int, accessFlags := 25, slot := 18, constantValue := 0 }, { name := "JLA", type := (.object "jdk/internal/access/JavaLangAccess"), accessFlags := 26, slot := 19, constantValue := 0 }, { name := "SOFT_MAX_ARRAY_LENGTH", type := .int, accessFlags := 25, slot := 20, constantValue := 0 }]
  methods := #[k14m0]
  instanceTypes := #[]
  staticTypes := #[(.object "jdk/internal/misc/Unsafe"), .boolean, .int, .int, .int, .int, .int, .int, .int, .int, .int, .int, .int, .int, .int, .int, .int, .int, .int, (.object "jdk/internal/access/JavaLangAccess"), .int]
  resolved := Array.replicate 378 none
  statics := none }

def pool15 : Array CpInfo := pool [(1, u "java/lang/Cloneable"), (0, .class_ 1), (0, u "java/lang/Object"), (0, .class_ 3)] 3

/-- java/lang/Cloneable -/
def k15 : Class := { plain "java/lang/Cloneable" (some 0) with
  accessFlags := 1537
  interfaces := #[]
  cf := some (fileOf pool15 2 #[] #[] 1537 4 #[] #[])
  fields := #[]
  methods := #[]
  instanceTypes := #[]
  staticTypes := #[]
  resolved := Array.replicate 8 none
  statics := none }

/-- the primitive byte -/
def k16 : Class := { plain "byte" none with kind := .primitive 'B', accessFlags := 0x411 }
/-- [B -/
def k17 : Class := { plain "[B" (some 0) with kind := .array 16 .byte, interfaces := #[15, 2], accessFlags := 1041 }

/-- the primitive char -/
def k18 : Class := { plain "char" none with kind := .primitive 'C', accessFlags := 0x411 }
/-- [C -/
def k19 : Class := { plain "[C" (some 0) with kind := .array 18 .char, interfaces := #[15, 2], accessFlags := 1041 }

/-- the primitive int -/
def k20 : Class := { plain "int" none with kind := .primitive 'I', accessFlags := 0x411 }
/-- [I -/
def k21 : Class := { plain "[I" (some 0) with kind := .array 20 .int, interfaces := #[15, 2], accessFlags := 1041 }

def heap : Heap := #[{ cls := 7, slots := #[.long 0, .int 1, .null, .int 0, .null, .int 0, .int 0], vm := .statics 7 },
  { cls := 13, slots := #[.null, .null, .null], vm := .statics 13 }]
def classes : Array Class := #[k0, k1, k2, k3, k4, k5, k6, k7, k8, k9, k10, k11, k12, k13, k14, k15, k16, k17, k18, k19, k20, k21]
def interned : List (Array UInt16 × Addr) := []
def slotsUsed : Nat := 10
def theMethod : MethodId := ⟨1, 2⟩
def args0 : Array Value := #[.int 5, .int 7, .int 1, .int 1]
def aboutOver (below : List Frame) : State where
  vm := { classes := classes, interned := interned.toArray }
  heap := heap
  slotsUsed := slotsUsed
  threads := #[{ frames := .invoking theMethod args0 :: below }]
def below0 : List Frame := [.native { method := ⟨0, 0⟩, args := #[] }]
def about1 : State := aboutOver below0
def p0 : Program := .bare "" "" ""
def e0 : Env := launch0.env 0 0 0
theorem w_frames : about1.frames = Frame.invoking theMethod args0 :: below0 := rfl
set_option maxRecDepth 65536 in
theorem w_args : argsFit about1.vm theMethod args0 = true := by decide +kernel
set_option maxRecDepth 65536 in
theorem w_heap : heapFits about1 = true := by decide +kernel
set_option maxRecDepth 65536 in
theorem w_runnable : about1.curStatus? = some .runnable := by decide +kernel
set_option maxRecDepth 65536 in
theorem w_alone : about1.alone = true := by decide +kernel
set_option maxRecDepth 65536 in
theorem w_named : about1.methodNamed? x = some theMethod := by decide +kernel
set_option maxRecDepth 65536 in
theorem w_hears : about1.hears theMethod below0 = true := by decide +kernel
set_option maxRecDepth 65536 in
theorem w_ripe : about1.ripe theMethod args0 below0 = true := by decide +kernel
theorem w_running : about1.status = .running := rfl
set_option maxRecDepth 65536 in
theorem w_room : about1.hasRoom e0.platform room_1 = true :=
  launch0.hasRoom_least _ room_1 (by decide +kernel) (by decide +kernel) (by decide +kernel) (by decide +kernel) (by decide +kernel) (by decide +kernel)
theorem allAtoms_all (ts : List Jvm.Cond) (a : Array Jvm.Value) (st : Jvm.State) : (allAtoms ts).before a st = ts.all (fun c => c.before a st) := by
  induction ts with
  | nil => rfl
  | cons c t ih =>
    show (Jvm.Cond.and c (allAtoms t)).before a st = _
    rw [Jvm.Cond.before_and, ih, List.all_cons]
def words1 : List Jvm.Cond := Jvm.Cond.code x code maxLocals ret :: tables_1
/-- a 'code' word, met by the world's own term for the bytes: nothing is compared byte by byte -/
theorem code_word {y : MethodName} {bytes : ByteArray} {mx : Nat} {rt : Option FieldType} {a : Array Value} {s : State} {m : MethodId} {meth : Method} {c : Code} (h1 : s.methodNamed? y = some m) (h2 : s.vm.method? m = some meth) (h3 : meth.code = some c) (h4 : c.code = bytes)
    (h5 : (c.maxLocals == mx && c.exceptionTable.isEmpty && decide (c.maxStack ≤ mostOperands) && decide (meth.sig.returnType = rt) && !meth.locks && decide (parseMethodDescriptor y.desc = some meth.sig)) = true) : (Jvm.Cond.code y bytes mx rt).before a s = true := by
  simp only [Bool.and_eq_true, beq_iff_eq, Bool.not_eq_true', decide_eq_true_eq] at h5
  obtain ⟨⟨⟨⟨⟨g1, g2⟩, g3⟩, g4⟩, g5⟩, g6⟩ := h5
  simp [Cond.before, Cond.holds, Cond.value, h1, h2, h3, h4, g1, g2, g3, g4, g5, g6]
def isCode : Jvm.Cond → Bool
  | .code _ _ _ _ => true
  | _ => false
theorem all_split {L : List Jvm.Cond} {P : Jvm.Cond → Bool} (h1 : L.all (fun c => isCode c || P c) = true) (h2 : ∀ c ∈ L.filter isCode, P c = true) : L.all P = true := by
  refine List.all_eq_true.mpr fun c hc => ?_
  have h := List.all_eq_true.mp h1 c hc
  rcases Bool.eq_false_or_eq_true (isCode c) with hi | hi
  · exact h2 c (List.mem_filter.mpr ⟨hc, hi⟩)
  · simpa [hi] using h
set_option maxRecDepth 65536 in
theorem w_c0 : (Jvm.Cond.code x code maxLocals ret).before args0 about1 = true := code_word (m := ⟨1, 2⟩) (meth := k1m2) (c := k1c2) (by decide +kernel) rfl rfl rfl (by decide +kernel)
set_option maxRecDepth 65536 in
theorem w_c1 : (Jvm.Cond.code ({ cls := "com/example/attesta/attesta/contract/MalattiaWithDataFinePinLaw", name := "mk", desc := "(IIII)Ljava/lang/String;" } : Jvm.MethodName) method_2_code (5 : Nat) (Option.some (Jvm.ClassFile.FieldType.object "java/lang/String"))).before args0 about1 = true := code_word (m := ⟨1, 1⟩) (meth := k1m1) (c := k1c1) (by decide +kernel) rfl rfl rfl (by decide +kernel)
set_option maxRecDepth 65536 in
theorem w_c2 : (Jvm.Cond.code ({ cls := "java/lang/String", name := "<init>", desc := "([C)V" } : Jvm.MethodName) jdk_42_method_3_code (2 : Nat) (Option.none : Option Jvm.ClassFile.FieldType)).before args0 about1 = true := code_word (m := ⟨7, 1⟩) (meth := k7m1) (c := k7c1) (by decide +kernel) rfl rfl rfl (by decide +kernel)
set_option maxRecDepth 65536 in
theorem w_c3 : (Jvm.Cond.code ({ cls := "java/lang/String", name := "<init>", desc := "([CIILjava/lang/Void;)V" } : Jvm.MethodName) jdk_42_method_149_code (6 : Nat) (Option.none : Option Jvm.ClassFile.FieldType)).before args0 about1 = true := code_word (m := ⟨7, 2⟩) (meth := k7m2) (c := k7c2) (by decide +kernel) rfl rfl rfl (by decide +kernel)
set_option maxRecDepth 65536 in
theorem w_c4 : (Jvm.Cond.code ({ cls := "java/lang/Object", name := "<init>", desc := "()V" } : Jvm.MethodName) object_method_1_code (1 : Nat) (Option.none : Option Jvm.ClassFile.FieldType)).before args0 about1 = true := code_word (m := ⟨0, 0⟩) (meth := k0m0) (c := k0c0) (by decide +kernel) rfl rfl rfl (by decide +kernel)
set_option maxRecDepth 65536 in
theorem w_c5 : (Jvm.Cond.code ({ cls := "java/lang/StringUTF16", name := "compress", desc := "([CII)[B" } : Jvm.MethodName) jdk_52_method_16_code (6 : Nat) (Option.some (Jvm.ClassFile.FieldType.array Jvm.ClassFile.FieldType.byte))).before args0 about1 = true := code_word (m := ⟨8, 2⟩) (meth := k8m2) (c := k8c2) (by decide +kernel) rfl rfl rfl (by decide +kernel)
set_option maxRecDepth 65536 in
theorem w_c6 : (Jvm.Cond.code ({ cls := "java/lang/StringUTF16", name := "compress", desc := "([CI[BII)I" } : Jvm.MethodName) jdk_52_method_21_code (7 : Nat) (Option.some Jvm.ClassFile.FieldType.int)).before args0 about1 = true := code_word (m := ⟨8, 3⟩) (meth := k8m3) (c := k8c3) (by decide +kernel) rfl rfl rfl (by decide +kernel)
set_option maxRecDepth 65536 in
theorem w_c7 : (Jvm.Cond.code ({ cls := "java/lang/StringUTF16", name := "coderFromArrayLen", desc := "([BI)B" } : Jvm.MethodName) jdk_52_method_15_code (2 : Nat) (Option.some Jvm.ClassFile.FieldType.byte)).before args0 about1 = true := code_word (m := ⟨8, 1⟩) (meth := k8m1) (c := k8c1) (by decide +kernel) rfl rfl rfl (by decide +kernel)
set_option maxRecDepth 65536 in
theorem w_c8 : (Jvm.Cond.code ({ cls := "com/example/attesta/attesta/contract/Diagnosi", name := "<init>", desc := "(Ljava/lang/String;Ljava/lang/String;)V" } : Jvm.MethodName) prog_17_method_1_code (3 : Nat) (Option.none : Option Jvm.ClassFile.FieldType)).before args0 about1 = true := code_word (m := ⟨10, 0⟩) (meth := k10m0) (c := k10c0) (by decide +kernel) rfl rfl rfl (by decide +kernel)
set_option maxRecDepth 65536 in
theorem w_c9 : (Jvm.Cond.code ({ cls := "java/lang/Record", name := "<init>", desc := "()V" } : Jvm.MethodName) jdk_30_method_1_code (1 : Nat) (Option.none : Option Jvm.ClassFile.FieldType)).before args0 about1 = true := code_word (m := ⟨9, 0⟩) (meth := k9m0) (c := k9c0) (by decide +kernel) rfl rfl rfl (by decide +kernel)
set_option maxRecDepth 65536 in
theorem w_c10 : (Jvm.Cond.code ({ cls := "com/example/attesta/attesta/contract/Malattia", name := "<init>", desc := "(Ljava/lang/String;Ljava/lang/String;Ljava/lang/String;Ljava/lang/String;Ljava/lang/String;Ljava/lang/String;Lcom/example/attesta/attesta/contract/Diagnosi;Ljava/lang/String;Ljava/lang/String;Ljava/lang/String;)V" } : Jvm.MethodName) prog_32_method_1_code (11 : Nat) (Option.none : Option Jvm.ClassFile.FieldType)).before args0 about1 = true := code_word (m := ⟨11, 0⟩) (meth := k11m0) (c := k11c0) (by decide +kernel) rfl rfl rfl (by decide +kernel)
set_option maxRecDepth 65536 in
theorem w_c11 : (Jvm.Cond.code ({ cls := "com/example/attesta/attesta/contract/Malattia", name := "withDataFine", desc := "(Ljava/lang/String;)Lcom/example/attesta/attesta/contract/Malattia;" } : Jvm.MethodName) prog_32_method_2_code (2 : Nat) (Option.some (Jvm.ClassFile.FieldType.object "com/example/attesta/attesta/contract/Malattia"))).before args0 about1 = true := code_word (m := ⟨11, 1⟩) (meth := k11m1) (c := k11c1) (by decide +kernel) rfl rfl rfl (by decide +kernel)
set_option maxRecDepth 65536 in
theorem w_c12 : (Jvm.Cond.code ({ cls := "com/example/attesta/attesta/contract/Malattia", name := "ruoloMedico", desc := "()Ljava/lang/String;" } : Jvm.MethodName) prog_32_method_6_code (1 : Nat) (Option.some (Jvm.ClassFile.FieldType.object "java/lang/String"))).before args0 about1 = true := code_word (m := ⟨11, 2⟩) (meth := k11m2) (c := k11c2) (by decide +kernel) rfl rfl rfl (by decide +kernel)
set_option maxRecDepth 65536 in
theorem w_c13 : (Jvm.Cond.code ({ cls := "com/example/attesta/attesta/contract/Malattia", name := "dataRilascio", desc := "()Ljava/lang/String;" } : Jvm.MethodName) prog_32_method_7_code (1 : Nat) (Option.some (Jvm.ClassFile.FieldType.object "java/lang/String"))).before args0 about1 = true := code_word (m := ⟨11, 3⟩) (meth := k11m3) (c := k11c3) (by decide +kernel) rfl rfl rfl (by decide +kernel)
set_option maxRecDepth 65536 in
theorem w_c14 : (Jvm.Cond.code ({ cls := "com/example/attesta/attesta/contract/Malattia", name := "dataInizio", desc := "()Ljava/lang/String;" } : Jvm.MethodName) prog_32_method_8_code (1 : Nat) (Option.some (Jvm.ClassFile.FieldType.object "java/lang/String"))).before args0 about1 = true := code_word (m := ⟨11, 4⟩) (meth := k11m4) (c := k11c4) (by decide +kernel) rfl rfl rfl (by decide +kernel)
set_option maxRecDepth 65536 in
theorem w_c15 : (Jvm.Cond.code ({ cls := "com/example/attesta/attesta/contract/Malattia", name := "dataFine", desc := "()Ljava/lang/String;" } : Jvm.MethodName) prog_32_method_9_code (1 : Nat) (Option.some (Jvm.ClassFile.FieldType.object "java/lang/String"))).before args0 about1 = true := code_word (m := ⟨11, 5⟩) (meth := k11m5) (c := k11c5) (by decide +kernel) rfl rfl rfl (by decide +kernel)
set_option maxRecDepth 65536 in
theorem w_c16 : (Jvm.Cond.code ({ cls := "com/example/attesta/attesta/contract/Malattia", name := "visita", desc := "()Ljava/lang/String;" } : Jvm.MethodName) prog_32_method_10_code (1 : Nat) (Option.some (Jvm.ClassFile.FieldType.object "java/lang/String"))).before args0 about1 = true := code_word (m := ⟨11, 6⟩) (meth := k11m6) (c := k11c6) (by decide +kernel) rfl rfl rfl (by decide +kernel)
set_option maxRecDepth 65536 in
theorem w_c17 : (Jvm.Cond.code ({ cls := "com/example/attesta/attesta/contract/Malattia", name := "tipoCertificato", desc := "()Ljava/lang/String;" } : Jvm.MethodName) prog_32_method_11_code (1 : Nat) (Option.some (Jvm.ClassFile.FieldType.object "java/lang/String"))).before args0 about1 = true := code_word (m := ⟨11, 7⟩) (meth := k11m7) (c := k11c7) (by decide +kernel) rfl rfl rfl (by decide +kernel)
set_option maxRecDepth 65536 in
theorem w_c18 : (Jvm.Cond.code ({ cls := "com/example/attesta/attesta/contract/Malattia", name := "diagnosi", desc := "()Lcom/example/attesta/attesta/contract/Diagnosi;" } : Jvm.MethodName) prog_32_method_12_code (1 : Nat) (Option.some (Jvm.ClassFile.FieldType.object "com/example/attesta/attesta/contract/Diagnosi"))).before args0 about1 = true := code_word (m := ⟨11, 8⟩) (meth := k11m8) (c := k11c8) (by decide +kernel) rfl rfl rfl (by decide +kernel)
set_option maxRecDepth 65536 in
theorem w_c19 : (Jvm.Cond.code ({ cls := "com/example/attesta/attesta/contract/Malattia", name := "giornataLavorata", desc := "()Ljava/lang/String;" } : Jvm.MethodName) prog_32_method_13_code (1 : Nat) (Option.some (Jvm.ClassFile.FieldType.object "java/lang/String"))).before args0 about1 = true := code_word (m := ⟨11, 9⟩) (meth := k11m9) (c := k11c9) (by decide +kernel) rfl rfl rfl (by decide +kernel)
set_option maxRecDepth 65536 in
theorem w_c20 : (Jvm.Cond.code ({ cls := "com/example/attesta/attesta/contract/Malattia", name := "trauma", desc := "()Ljava/lang/String;" } : Jvm.MethodName) prog_32_method_14_code (1 : Nat) (Option.some (Jvm.ClassFile.FieldType.object "java/lang/String"))).before args0 about1 = true := code_word (m := ⟨11, 10⟩) (meth := k11m10) (c := k11c10) (by decide +kernel) rfl rfl rfl (by decide +kernel)
set_option maxRecDepth 65536 in
theorem w_c21 : (Jvm.Cond.code ({ cls := "com/example/attesta/attesta/contract/Malattia", name := "agevolazioni", desc := "()Ljava/lang/String;" } : Jvm.MethodName) prog_32_method_15_code (1 : Nat) (Option.some (Jvm.ClassFile.FieldType.object "java/lang/String"))).before args0 about1 = true := code_word (m := ⟨11, 11⟩) (meth := k11m11) (c := k11c11) (by decide +kernel) rfl rfl rfl (by decide +kernel)
def codes1 : List Jvm.Cond := [Jvm.Cond.code x code maxLocals ret, Jvm.Cond.code ({ cls := "com/example/attesta/attesta/contract/MalattiaWithDataFinePinLaw", name := "mk", desc := "(IIII)Ljava/lang/String;" } : Jvm.MethodName) method_2_code (5 : Nat) (Option.some (Jvm.ClassFile.FieldType.object "java/lang/String")), Jvm.Cond.code ({ cls := "java/lang/String", name := "<init>", desc := "([C)V" } : Jvm.MethodName) jdk_42_method_3_code (2 : Nat) (Option.none : Option Jvm.ClassFile.FieldType), Jvm.Cond.code ({ cls := "java/lang/String", name := "<init>", desc := "([CIILjava/lang/Void;)V" } : Jvm.MethodName) jdk_42_method_149_code (6 : Nat) (Option.none : Option Jvm.ClassFile.FieldType), Jvm.Cond.code ({ cls := "java/lang/Object", name := "<init>", desc := "()V" } : Jvm.MethodName) object_method_1_code (1 : Nat) (Option.none : Option Jvm.ClassFile.FieldType), Jvm.Cond.code ({ cls := "java/lang/StringUTF16", name := "compress", desc := "([CII)[B" } : Jvm.MethodName) jdk_52_method_16_code (6 : Nat) (Option.some (Jvm.ClassFile.FieldType.array Jvm.ClassFile.FieldType.byte)), Jvm.Cond.code ({ cls := "java/lang/StringUTF16", name := "compress", desc := "([CI[BII)I" } : Jvm.MethodName) jdk_52_method_21_code (7 : Nat) (Option.some Jvm.ClassFile.FieldType.int), Jvm.Cond.code ({ cls := "java/lang/StringUTF16", name := "coderFromArrayLen", desc := "([BI)B" } : Jvm.MethodName) jdk_52_method_15_code (2 : Nat) (Option.some Jvm.ClassFile.FieldType.byte), Jvm.Cond.code ({ cls := "com/example/attesta/attesta/contract/Diagnosi", name := "<init>", desc := "(Ljava/lang/String;Ljava/lang/String;)V" } : Jvm.MethodName) prog_17_method_1_code (3 : Nat) (Option.none : Option Jvm.ClassFile.FieldType), Jvm.Cond.code ({ cls := "java/lang/Record", name := "<init>", desc := "()V" } : Jvm.MethodName) jdk_30_method_1_code (1 : Nat) (Option.none : Option Jvm.ClassFile.FieldType), Jvm.Cond.code ({ cls := "com/example/attesta/attesta/contract/Malattia", name := "<init>", desc := "(Ljava/lang/String;Ljava/lang/String;Ljava/lang/String;Ljava/lang/String;Ljava/lang/String;Ljava/lang/String;Lcom/example/attesta/attesta/contract/Diagnosi;Ljava/lang/String;Ljava/lang/String;Ljava/lang/String;)V" } : Jvm.MethodName) prog_32_method_1_code (11 : Nat) (Option.none : Option Jvm.ClassFile.FieldType), Jvm.Cond.code ({ cls := "com/example/attesta/attesta/contract/Malattia", name := "withDataFine", desc := "(Ljava/lang/String;)Lcom/example/attesta/attesta/contract/Malattia;" } : Jvm.MethodName) prog_32_method_2_code (2 : Nat) (Option.some (Jvm.ClassFile.FieldType.object "com/example/attesta/attesta/contract/Malattia")), Jvm.Cond.code ({ cls := "com/example/attesta/attesta/contract/Malattia", name := "ruoloMedico", desc := "()Ljava/lang/String;" } : Jvm.MethodName) prog_32_method_6_code (1 : Nat) (Option.some (Jvm.ClassFile.FieldType.object "java/lang/String")), Jvm.Cond.code ({ cls := "com/example/attesta/attesta/contract/Malattia", name := "dataRilascio", desc := "()Ljava/lang/String;" } : Jvm.MethodName) prog_32_method_7_code (1 : Nat) (Option.some (Jvm.ClassFile.FieldType.object "java/lang/String")), Jvm.Cond.code ({ cls := "com/example/attesta/attesta/contract/Malattia", name := "dataInizio", desc := "()Ljava/lang/String;" } : Jvm.MethodName) prog_32_method_8_code (1 : Nat) (Option.some (Jvm.ClassFile.FieldType.object "java/lang/String")), Jvm.Cond.code ({ cls := "com/example/attesta/attesta/contract/Malattia", name := "dataFine", desc := "()Ljava/lang/String;" } : Jvm.MethodName) prog_32_method_9_code (1 : Nat) (Option.some (Jvm.ClassFile.FieldType.object "java/lang/String")), Jvm.Cond.code ({ cls := "com/example/attesta/attesta/contract/Malattia", name := "visita", desc := "()Ljava/lang/String;" } : Jvm.MethodName) prog_32_method_10_code (1 : Nat) (Option.some (Jvm.ClassFile.FieldType.object "java/lang/String")), Jvm.Cond.code ({ cls := "com/example/attesta/attesta/contract/Malattia", name := "tipoCertificato", desc := "()Ljava/lang/String;" } : Jvm.MethodName) prog_32_method_11_code (1 : Nat) (Option.some (Jvm.ClassFile.FieldType.object "java/lang/String")), Jvm.Cond.code ({ cls := "com/example/attesta/attesta/contract/Malattia", name := "diagnosi", desc := "()Lcom/example/attesta/attesta/contract/Diagnosi;" } : Jvm.MethodName) prog_32_method_12_code (1 : Nat) (Option.some (Jvm.ClassFile.FieldType.object "com/example/attesta/attesta/contract/Diagnosi")), Jvm.Cond.code ({ cls := "com/example/attesta/attesta/contract/Malattia", name := "giornataLavorata", desc := "()Ljava/lang/String;" } : Jvm.MethodName) prog_32_method_13_code (1 : Nat) (Option.some (Jvm.ClassFile.FieldType.object "java/lang/String")), Jvm.Cond.code ({ cls := "com/example/attesta/attesta/contract/Malattia", name := "trauma", desc := "()Ljava/lang/String;" } : Jvm.MethodName) prog_32_method_14_code (1 : Nat) (Option.some (Jvm.ClassFile.FieldType.object "java/lang/String")), Jvm.Cond.code ({ cls := "com/example/attesta/attesta/contract/Malattia", name := "agevolazioni", desc := "()Ljava/lang/String;" } : Jvm.MethodName) prog_32_method_15_code (1 : Nat) (Option.some (Jvm.ClassFile.FieldType.object "java/lang/String"))]
set_option maxRecDepth 65536 in
theorem codes_eq : words1.filter isCode = codes1 := rfl
theorem w_codes : ∀ c ∈ words1.filter isCode, c.before args0 about1 = true := by
  rw [codes_eq]
  intro c hc
  simp only [codes1, List.mem_cons, List.not_mem_nil, or_false] at hc
  rcases hc with rfl | rfl | rfl | rfl | rfl | rfl | rfl | rfl | rfl | rfl | rfl | rfl | rfl | rfl | rfl | rfl | rfl | rfl | rfl | rfl | rfl | rfl
  · exact w_c0
  · exact w_c1
  · exact w_c2
  · exact w_c3
  · exact w_c4
  · exact w_c5
  · exact w_c6
  · exact w_c7
  · exact w_c8
  · exact w_c9
  · exact w_c10
  · exact w_c11
  · exact w_c12
  · exact w_c13
  · exact w_c14
  · exact w_c15
  · exact w_c16
  · exact w_c17
  · exact w_c18
  · exact w_c19
  · exact w_c20
  · exact w_c21
set_option maxRecDepth 65536 in
theorem w_t1 : (words1.take 24).all (fun c => isCode c || c.before args0 about1) = true := by decide +kernel
set_option maxRecDepth 65536 in
theorem w_t2 : ((words1.drop 24).take 24).all (fun c => isCode c || c.before args0 about1) = true := by decide +kernel
set_option maxRecDepth 65536 in
theorem w_t3 : (((words1.drop 24).drop 24).take 24).all (fun c => isCode c || c.before args0 about1) = true := by decide +kernel
set_option maxRecDepth 65536 in
theorem w_t4 : ((((words1.drop 24).drop 24).drop 24).take 24).all (fun c => isCode c || c.before args0 about1) = true := by decide +kernel
set_option maxRecDepth 65536 in
theorem w_t5 : (((((words1.drop 24).drop 24).drop 24).drop 24).take 24).all (fun c => isCode c || c.before args0 about1) = true := by decide +kernel
set_option maxRecDepth 65536 in
theorem w_t6 : (((((words1.drop 24).drop 24).drop 24).drop 24).drop 24).all (fun c => isCode c || c.before args0 about1) = true := by decide +kernel
theorem w_tables : (allAtoms (Jvm.Cond.code x code maxLocals ret :: tables_1)).before args0 about1 = true := by
  rw [allAtoms_all]
  show words1.all (fun c => c.before args0 about1) = true
  refine all_split ?_ w_codes
  rw [← List.take_append_drop 24 words1, List.all_append, w_t1, ← List.take_append_drop 24 (words1.drop 24), List.all_append, w_t2, ← List.take_append_drop 24 ((words1.drop 24).drop 24), List.all_append, w_t3, ← List.take_append_drop 24 (((words1.drop 24).drop 24).drop 24), List.all_append, w_t4, ← List.take_append_drop 24 ((((words1.drop 24).drop 24).drop 24).drop 24), List.all_append, w_t5, w_t6]
  rfl
set_option maxRecDepth 65536 in
theorem w_rest : rest_1_c.before args0 about1 = true := by decide +kernel
set_option maxRecDepth 65536 in
theorem w_case : (Jvm.Cond.and given_1 narrow_1).before args0 about1 = true := by decide +kernel
theorem w_applies : (headSpec (Jvm.Cond.code x code maxLocals ret :: tables_1) room_1).applies x e0.platform about1 = true :=
  (Spec.applies_iff w_frames).mpr ⟨w_running, w_runnable, w_alone, w_named, w_hears, w_ripe, w_room, w_tables⟩
theorem atStart : AtStart classFile x code maxLocals ret World_1 tables_1 room_1 Calls_1 rest_1 Pre_1 launch0 p0 e0 about1 theMethod args0 below0 :=
  ⟨lists_1, trivial, launch0.admits_env _ _ _, launch0.least_env, fairChoices_fair.cas, fairChoices_fair.clock, w_frames, w_args, w_heap, w_applies, trivial, w_rest, w_case⟩
end start1
theorem witness_1 : WitnessClaimed_1 := ⟨start1.p0, start1.e0, start1.about1, start1.theMethod, start1.args0, start1.below0, start1.atStart⟩
end Jvm.Pilot.@@N@@
