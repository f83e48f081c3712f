import JvmDerived
import JvmDerived.Pilot.@@N@@Statement
import JvmDerived.Pilot.@@N@@Code
set_option linter.unusedVariables false
set_option linter.unusedSimpArgs false
namespace Jvm.Pilot.@@N@@
open Jvm Jvm.ClassFile Sem Op Lib Jvm.Free Jvm.Stand Jvm.LawKit Jvm.RoadKit Bundle Jvm.Pilot.@@N@@.Jvm.D

/-! the plain model: lows, highs, table, stamps, count, stamp -/
abbrev OSt := (Nat → Nat) × (Nat → Nat) × (Nat → Nat) × (Nat → Nat) × Nat × Nat
def oLo (S : OSt) : Nat → Nat := S.1
def oHi (S : OSt) : Nat → Nat := S.2.1
def oTa (S : OSt) : Nat → Nat := S.2.2.1
def oSp (S : OSt) : Nat → Nat := S.2.2.2.1
def oCn (S : OSt) : Nat := S.2.2.2.2.1
def oSt (S : OSt) : Nat := S.2.2.2.2.2
def oUpd (f : Nat → Nat) (i x : Nat) : Nat → Nat := fun j => if j = i then x else f j
theorem oUpd_same (f : Nat → Nat) (i x : Nat) : oUpd f i x i = x := by simp [oUpd]
theorem oUpd_ne {f : Nat → Nat} {i j x : Nat} (h : j ≠ i) : oUpd f i x j = f j := by simp [oUpd, h]
def oIns (S : OSt) (lo hi slot : Nat) : OSt := (oUpd (oLo S) (oCn S) lo, oUpd (oHi S) (oCn S) hi, oUpd (oTa S) slot (oCn S), oUpd (oSp S) slot (oSt S), oCn S + 1, oSt S)
def oSlotE (x y : Int32) : Int32 := ((((((x.toInt64) <<< ((32 : Int32) &&& 0x3f).toInt64) ||| (y.toInt64)) * (-7046029254386353131 : Int64)).toUInt64 >>> ((59 : Int32) &&& 0x3f).toInt64.toUInt64).toInt64).toInt32
def oSlot (lo hi : Nat) : Nat := (oSlotE (Int32.ofNat lo) (Int32.ofNat hi)).toNatClampNeg
theorem oSlot_all : ∀ lo hi : Fin 16, oSlotE (Int32.ofNat lo.1) (Int32.ofNat hi.1) = Int32.ofNat (oSlot lo.1 hi.1) ∧ oSlot lo.1 hi.1 < 32 := by decide +kernel
theorem oSlot_eq {lo hi : Nat} (h1 : lo < 16) (h2 : hi < 16) : oSlotE (Int32.ofNat lo) (Int32.ofNat hi) = Int32.ofNat (oSlot lo hi) := (oSlot_all ⟨lo, h1⟩ ⟨hi, h2⟩).1
theorem oSlot_lt {lo hi : Nat} (h1 : lo < 16) (h2 : hi < 16) : oSlot lo hi < 32 := (oSlot_all ⟨lo, h1⟩ ⟨hi, h2⟩).2
def oProbe (S : OSt) (lo hi : Nat) : Nat → Nat → OSt × Nat
  | 0, _ => (S, 0)
  | f + 1, slot => if oSp S slot = oSt S then (if oLo S (oTa S slot) = lo ∧ oHi S (oTa S slot) = hi then (S, oTa S slot) else oProbe S lo hi f ((slot + 1) % 32)) else (oIns S lo hi slot, oCn S)
def oJoin (S : OSt) (lo hi : Nat) : OSt × Nat := if lo = 0 ∧ hi = 0 then (S, 0) else oProbe S lo hi 32 (oSlot lo hi)
def oLow (S : OSt) (x : Nat) : Nat := if x = 0 then 0 else oLo S x
def oHigh (S : OSt) (x : Nat) : Nat := if x = 0 then 0 else oHi S x
/-- whether the place lies in the lower half at the level -/
def oBit (p q : Int32) : Int32 := if (p >>> ((q - (1 : Int32)) &&& 31)) &&& (1 : Int32) = (0 : Int32) then 1 else 0
def oIsLow (place : Int32) (level : Nat) : Bool := decide ((place >>> ((Int32.ofNat level - (1 : Int32)) &&& 31)) &&& (1 : Int32) = (0 : Int32))
theorem own_bit (p : Int32) (n : Nat) : oBit p (Int32.ofNat n) = 0 ↔ oIsLow p n = false := by
  unfold oBit oIsLow
  split <;> simp_all
def oWith (place : Int32) : Nat → Nat → OSt → OSt × Nat
  | 0, _, S => (S, 1)
  | n + 1, x, S => if oIsLow place (n + 1) then oJoin (oWith place n (oLow S x) S).1 (oWith place n (oLow S x) S).2 (oHigh (oWith place n (oLow S x) S).1 x)
      else oJoin (oWith place n (oHigh S x) S).1 (oLow S x) (oWith place n (oHigh S x) S).2
/-- what always holds -/
def OInv (S : OSt) : Prop := 2 ≤ oCn S ∧ (∀ i, i < oCn S → oLo S i < oCn S ∧ oHi S i < oCn S) ∧ (oLo S 0 = 0 ∧ oLo S 1 = 0 ∧ oHi S 0 = 0 ∧ oHi S 1 = 0) ∧ (∀ j, j < 32 → oSp S j ≤ oSt S) ∧
  (∀ j, j < 32 → oSp S j = oSt S → 2 ≤ oTa S j ∧ oTa S j < oCn S) ∧ ∃ u : List Nat, u.length + 2 ≤ oCn S ∧ ∀ j, j < 32 → oSp S j = oSt S → j ∈ u
theorem own_pig : ∀ (n : Nat) (u : List Nat), u.length < n → ∃ j, j < n ∧ j ∉ u
  | 0, u, h => absurd h (Nat.not_lt_zero _)
  | n + 1, u, h => by
    by_cases q : n ∈ u
    · have hl : (u.erase n).length < n := by rw [List.length_erase_of_mem q]; have := List.length_pos_of_mem q; omega
      obtain ⟨j, h1, h2⟩ := own_pig n (u.erase n) hl
      exact ⟨j, by omega, fun q2 => h2 ((List.mem_erase_of_ne (by omega)).mpr q2)⟩
    · exact ⟨n, by omega, q⟩
theorem OInv.free {S : OSt} (I : OInv S) (hc : oCn S ≤ 16) (slot : Nat) (hs : slot < 32) : ∃ d, d < 32 ∧ oSp S ((slot + d) % 32) ≠ oSt S := by
  obtain ⟨u, h1, h2⟩ := I.2.2.2.2.2
  obtain ⟨j, q1, q2⟩ := own_pig 32 u (by omega)
  refine ⟨(j + 32 - slot) % 32, by omega, fun q => q2 (h2 j q1 ?_)⟩
  have e : (slot + (j + 32 - slot) % 32) % 32 = j := by omega
  rw [e] at q; exact q
theorem OInv.ins {S : OSt} (I : OInv S) {lo hi slot : Nat} (h1 : lo < oCn S) (h2 : hi < oCn S) (h3 : slot < 32) (h4 : oSp S slot ≠ oSt S) : OInv (oIns S lo hi slot) := by
  obtain ⟨i1, i2, i3, i4, i5, u, i6, i7⟩ := I
  refine ⟨by show 2 ≤ oCn S + 1; omega, fun i hi' => ?_, ?_, fun j hj => ?_, fun j hj hq => ?_, slot :: u, by show u.length + 1 + 2 ≤ oCn S + 1; omega, fun j hj hq => ?_⟩
  · show oUpd (oLo S) (oCn S) lo i < oCn S + 1 ∧ oUpd (oHi S) (oCn S) hi i < oCn S + 1
    have hi2 : i < oCn S + 1 := hi'
    by_cases q : i = oCn S
    · subst q; rw [oUpd_same, oUpd_same]; omega
    · have := i2 i (by omega); rw [oUpd_ne q, oUpd_ne q]; omega
  · show oUpd (oLo S) (oCn S) lo 0 = 0 ∧ oUpd (oLo S) (oCn S) lo 1 = 0 ∧ oUpd (oHi S) (oCn S) hi 0 = 0 ∧ oUpd (oHi S) (oCn S) hi 1 = 0
    rw [oUpd_ne (by omega), oUpd_ne (by omega), oUpd_ne (by omega), oUpd_ne (by omega)]; exact i3
  · show oUpd (oSp S) slot (oSt S) j ≤ oSt S
    by_cases q : j = slot
    · subst q; rw [oUpd_same]; exact Nat.le_refl _
    · rw [oUpd_ne q]; exact i4 j hj
  · have hq2 : oUpd (oSp S) slot (oSt S) j = oSt S := hq
    show 2 ≤ oUpd (oTa S) slot (oCn S) j ∧ oUpd (oTa S) slot (oCn S) j < oCn S + 1
    by_cases q : j = slot
    · subst q; rw [oUpd_same]; omega
    · rw [oUpd_ne q] at hq2 ⊢; have := i5 j hj hq2; omega
  · have hq2 : oUpd (oSp S) slot (oSt S) j = oSt S := hq
    by_cases q : j = slot
    · subst q; exact List.mem_cons_self
    · rw [oUpd_ne q] at hq2; exact List.mem_cons_of_mem _ (i7 j hj hq2)
theorem oProbe_ok {S : OSt} (I : OInv S) {lo hi : Nat} (h1 : lo < oCn S) (h2 : hi < oCn S) : ∀ (f slot d : Nat), slot < 32 → d < f → oSp S ((slot + d) % 32) ≠ oSt S →
    OInv (oProbe S lo hi f slot).1 ∧ (oProbe S lo hi f slot).2 < oCn (oProbe S lo hi f slot).1 ∧ oCn S ≤ oCn (oProbe S lo hi f slot).1 ∧ oCn (oProbe S lo hi f slot).1 ≤ oCn S + 1
  | 0, _, d, _, hd, _ => absurd hd (Nat.not_lt_zero _)
  | f + 1, slot, d, hs, hd, hq => by
    unfold oProbe
    by_cases q : oSp S slot = oSt S
    · rw [if_pos q]
      by_cases q2 : oLo S (oTa S slot) = lo ∧ oHi S (oTa S slot) = hi
      · rw [if_pos q2]
        exact ⟨I, (I.2.2.2.2.1 slot hs q).2, Nat.le_refl _, Nat.le_succ _⟩
      · rw [if_neg q2]
        cases d with
        | zero => exact absurd q (by rw [Nat.add_zero, Nat.mod_eq_of_lt hs] at hq; exact hq)
        | succ d =>
          have e : ((slot + 1) % 32 + d) % 32 = (slot + (d + 1)) % 32 := by omega
          exact oProbe_ok I h1 h2 f _ d (Nat.mod_lt _ (by decide)) (by omega) (by rw [e]; exact hq)
    · rw [if_neg q]
      exact ⟨I.ins h1 h2 hs q, Nat.lt_succ_self _, Nat.le_succ _, Nat.le_refl _⟩
theorem oJoin_ok {S : OSt} (I : OInv S) (hc : oCn S ≤ 15) {lo hi : Nat} (h1 : lo < oCn S) (h2 : hi < oCn S) : OInv (oJoin S lo hi).1 ∧ (oJoin S lo hi).2 < oCn (oJoin S lo hi).1 ∧ oCn S ≤ oCn (oJoin S lo hi).1 ∧ oCn (oJoin S lo hi).1 ≤ oCn S + 1 := by
  unfold oJoin
  by_cases q : lo = 0 ∧ hi = 0
  · rw [if_pos q]; exact ⟨I, by have := I.1; show 0 < oCn S; omega, Nat.le_refl _, Nat.le_succ _⟩
  · rw [if_neg q]
    have hs := oSlot_lt (lo := lo) (hi := hi) (by omega) (by omega)
    obtain ⟨d, d1, d2⟩ := I.free (by omega) _ hs
    exact oProbe_ok I h1 h2 32 _ d hs d1 d2
theorem oLow_lt {S : OSt} (I : OInv S) {x : Nat} (hx : x < oCn S) : oLow S x < oCn S := by
  unfold oLow; split
  · have := I.1; omega
  · exact (I.2.1 x hx).1
theorem oHigh_lt {S : OSt} (I : OInv S) {x : Nat} (hx : x < oCn S) : oHigh S x < oCn S := by
  unfold oHigh; split
  · have := I.1; omega
  · exact (I.2.1 x hx).2
theorem own_with_lo {place : Int32} {x : Nat} {S : OSt} (n : Nat) (h : oIsLow place (n + 1) = true) : oWith place (n + 1) x S = oJoin (oWith place n (oLow S x) S).1 (oWith place n (oLow S x) S).2 (oHigh (oWith place n (oLow S x) S).1 x) := by
  rw [oWith, if_pos h]
theorem own_with_hi {place : Int32} {x : Nat} {S : OSt} (n : Nat) (h : oIsLow place (n + 1) = false) : oWith place (n + 1) x S = oJoin (oWith place n (oHigh S x) S).1 (oLow S x) (oWith place n (oHigh S x) S).2 := by
  rw [oWith, if_neg (by rw [h]; decide)]
theorem oProbe_st (S : OSt) (lo hi : Nat) : ∀ f slot, oSt (oProbe S lo hi f slot).1 = oSt S
  | 0, _ => rfl
  | f + 1, slot => by
    unfold oProbe
    split
    · split
      · rfl
      · exact oProbe_st S lo hi f _
    · rfl
theorem oJoin_st (S : OSt) (lo hi : Nat) : oSt (oJoin S lo hi).1 = oSt S := by
  unfold oJoin
  split
  · rfl
  · exact oProbe_st S lo hi 32 _
theorem oWith_st (place : Int32) : ∀ (n x : Nat) (S : OSt), oSt (oWith place n x S).1 = oSt S
  | 0, _, _ => rfl
  | n + 1, x, S => by
    unfold oWith
    split
    · rw [oJoin_st, oWith_st place n]
    · rw [oJoin_st, oWith_st place n]
theorem oWith_ok (place : Int32) : ∀ (n x : Nat) (S : OSt), OInv S → oCn S + n ≤ 16 → x < oCn S → OInv (oWith place n x S).1 ∧ (oWith place n x S).2 < oCn (oWith place n x S).1 ∧ oCn S ≤ oCn (oWith place n x S).1 ∧ oCn (oWith place n x S).1 ≤ oCn S + n
  | 0, x, S, I, _, _ => ⟨I, I.1, Nat.le_refl _, Nat.le_refl _⟩
  | n + 1, x, S, I, hc, hx => by
    unfold oWith
    split
    · obtain ⟨a1, a2, a3, a4⟩ := oWith_ok place n (oLow S x) S I (by omega) (oLow_lt I hx)
      obtain ⟨b1, b2, b3, b4⟩ := oJoin_ok a1 (by omega) a2 (oHigh_lt a1 (x := x) (by omega))
      exact ⟨b1, b2, by omega, by omega⟩
    · obtain ⟨a1, a2, a3, a4⟩ := oWith_ok place n (oHigh S x) S I (by omega) (oHigh_lt I hx)
      obtain ⟨b1, b2, b3, b4⟩ := oJoin_ok a1 (by omega) (lo := oLow S x) (by have := oLow_lt I hx; omega) a2
      exact ⟨b1, b2, by omega, by omega⟩
/-- two stores that give the same numbers -/
def ORel (A B : OSt) : Prop := oCn A = oCn B ∧ (∀ i, i < oCn A → oLo A i = oLo B i ∧ oHi A i = oHi B i) ∧ ∀ j, j < 32 → (oSp A j = oSt A ↔ oSp B j = oSt B) ∧ (oSp A j = oSt A → oTa A j = oTa B j)
theorem ORel.ins {A B : OSt} (R : ORel A B) (lo hi slot : Nat) : ORel (oIns A lo hi slot) (oIns B lo hi slot) := by
  obtain ⟨r1, r2, r3⟩ := R
  refine ⟨by show oCn A + 1 = oCn B + 1; omega, fun i hi' => ?_, fun j hj => ?_⟩
  · show oUpd (oLo A) (oCn A) lo i = oUpd (oLo B) (oCn B) lo i ∧ oUpd (oHi A) (oCn A) hi i = oUpd (oHi B) (oCn B) hi i
    have hi2 : i < oCn A + 1 := hi'
    by_cases q : i = oCn A
    · rw [← r1, q]; simp [oUpd]
    · have := r2 i (by omega); rw [oUpd_ne q, oUpd_ne q, oUpd_ne (r1 ▸ q), oUpd_ne (r1 ▸ q)]; exact this
  · show (oUpd (oSp A) slot (oSt A) j = oSt A ↔ oUpd (oSp B) slot (oSt B) j = oSt B) ∧ (oUpd (oSp A) slot (oSt A) j = oSt A → oUpd (oTa A) slot (oCn A) j = oUpd (oTa B) slot (oCn B) j)
    by_cases q : j = slot
    · subst q; rw [oUpd_same, oUpd_same, oUpd_same, oUpd_same]; exact ⟨⟨fun _ => rfl, fun _ => rfl⟩, fun _ => r1⟩
    · rw [oUpd_ne q, oUpd_ne q, oUpd_ne q, oUpd_ne q]; exact r3 j hj
theorem oProbe_rel' {A B : OSt} (I : OInv A) (R : ORel A B) {lo hi : Nat} : ∀ (f slot : Nat), slot < 32 → (oProbe A lo hi f slot).2 = (oProbe B lo hi f slot).2 ∧ ORel (oProbe A lo hi f slot).1 (oProbe B lo hi f slot).1
  | 0, _, _ => ⟨rfl, R⟩
  | f + 1, slot, hs => by
    unfold oProbe
    obtain ⟨q1, q2⟩ := R.2.2 slot hs
    by_cases q : oSp A slot = oSt A
    · have hB := q1.mp q
      have ht := q2 q
      have hl := R.2.1 (oTa A slot) (I.2.2.2.2.1 slot hs q).2
      rw [if_pos q, if_pos hB, ← ht, ← hl.1, ← hl.2]
      by_cases q3 : oLo A (oTa A slot) = lo ∧ oHi A (oTa A slot) = hi
      · rw [if_pos q3, if_pos q3]; exact ⟨rfl, R⟩
      · rw [if_neg q3, if_neg q3]; exact oProbe_rel' I R f _ (Nat.mod_lt _ (by decide))
    · have hB : ¬ oSp B slot = oSt B := fun z => q (q1.mpr z)
      rw [if_neg q, if_neg hB]; exact ⟨R.1, R.ins lo hi slot⟩
theorem oJoin_rel {A B : OSt} (I : OInv A) (R : ORel A B) {lo hi : Nat} (h1 : lo < 16) (h2 : hi < 16) : (oJoin A lo hi).2 = (oJoin B lo hi).2 ∧ ORel (oJoin A lo hi).1 (oJoin B lo hi).1 := by
  unfold oJoin
  by_cases q : lo = 0 ∧ hi = 0
  · rw [if_pos q, if_pos q]; exact ⟨rfl, R⟩
  · rw [if_neg q, if_neg q]; exact oProbe_rel' I R 32 _ (oSlot_lt h1 h2)
theorem oLow_rel {A B : OSt} (R : ORel A B) {x : Nat} (hx : x < oCn A) : oLow A x = oLow B x := by unfold oLow; rw [(R.2.1 x hx).1]
theorem oHigh_rel {A B : OSt} (R : ORel A B) {x : Nat} (hx : x < oCn A) : oHigh A x = oHigh B x := by unfold oHigh; rw [(R.2.1 x hx).2]
theorem oWith_rel (place : Int32) : ∀ (n x : Nat) (A B : OSt), OInv A → ORel A B → oCn A + n ≤ 16 → x < oCn A → (oWith place n x A).2 = (oWith place n x B).2 ∧ ORel (oWith place n x A).1 (oWith place n x B).1
  | 0, x, A, B, I, R, _, _ => ⟨rfl, R⟩
  | n + 1, x, A, B, I, R, hc, hx => by
    unfold oWith
    split
    · obtain ⟨a1, a2, a3, a4⟩ := oWith_ok place n (oLow A x) A I (by omega) (oLow_lt I hx)
      obtain ⟨e1, R1⟩ := oWith_rel place n (oLow A x) A B I R (by omega) (oLow_lt I hx)
      rw [← oLow_rel R hx, ← e1, ← oHigh_rel R1 (x := x) (by omega)]
      have q := oHigh_lt a1 (x := x) (by omega)
      exact oJoin_rel a1 R1 (by omega) (by omega)
    · obtain ⟨a1, a2, a3, a4⟩ := oWith_ok place n (oHigh A x) A I (by omega) (oHigh_lt I hx)
      obtain ⟨e1, R1⟩ := oWith_rel place n (oHigh A x) A B I R (by omega) (oHigh_lt I hx)
      rw [← oHigh_rel R hx, ← e1, ← oLow_rel R hx]
      have q := oLow_lt I hx
      exact oJoin_rel a1 R1 (by omega) (by omega)
def oNew : OSt := (fun _ => 0, fun _ => 0, fun _ => 0, fun _ => 0, 2, 1)
theorem oNew_inv : OInv oNew := ⟨Nat.le_refl _, fun i hi => ⟨by show 0 < 2; omega, by show 0 < 2; omega⟩, ⟨rfl, rfl, rfl, rfl⟩, fun j _ => Nat.zero_le _, fun j _ h => absurd (show (0 : Nat) = 1 from h) (by decide), [], Nat.le_refl _, fun j _ h => absurd (show (0 : Nat) = 1 from h) (by decide)⟩
def oClear (S : OSt) : OSt := (oLo S, oHi S, oTa S, oSp S, 2, oSt S + 1)
theorem oClear_inv {S : OSt} (I : OInv S) : OInv (oClear S) := by
  obtain ⟨i1, i2, ⟨i3, i3', i3'', i3'''⟩, i4, i5, -⟩ := I
  refine ⟨Nat.le_refl _, fun i hi => ?_, ⟨i3, i3', i3'', i3'''⟩, fun j hj => Nat.le_succ_of_le (i4 j hj), fun j hj h => ?_, [], Nat.le_refl _, fun j hj h => ?_⟩
  · have hi2 : i < 2 := hi
    show oLo S i < 2 ∧ oHi S i < 2
    have : i = 0 ∨ i = 1 := by omega
    rcases this with rfl | rfl <;> omega
  · have h2 : oSp S j = oSt S + 1 := h
    have := i4 j hj; omega
  · have h2 : oSp S j = oSt S + 1 := h
    have := i4 j hj; omega
theorem oClear_rel {S : OSt} (I : OInv S) : ORel (oClear S) oNew := by
  obtain ⟨i1, i2, ⟨i3, i3', i3'', i3'''⟩, i4, i5, -⟩ := I
  refine ⟨rfl, fun i hi => ?_, fun j hj => ⟨⟨fun h => ?_, fun h => ?_⟩, fun h => ?_⟩⟩
  · have hi2 : i < 2 := hi
    show oLo S i = 0 ∧ oHi S i = 0
    have : i = 0 ∨ i = 1 := by omega
    rcases this with rfl | rfl
    · exact ⟨i3, i3''⟩
    · exact ⟨i3', i3'''⟩
  · have h2 : oSp S j = oSt S + 1 := h
    have := i4 j hj; omega
  · exact absurd (show (0 : Nat) = 1 from h) (by decide)
  · have h2 : oSp S j = oSt S + 1 := h
    have := i4 j hj; omega
theorem own_next : ∀ slot : Fin 32, ((Int32.ofNat slot.1 + (1 : Int32)) &&& (31 : Int32)) = Int32.ofNat ((slot.1 + 1) % 32) := by decide +kernel
theorem own_add1 (n : Nat) : Int32.ofNat n + (1 : Int32) = Int32.ofNat (n + 1) := (Int32.ofNat_add n 1).symm
theorem own_twice : ∀ n : Fin 17, ¬ (32 : Int32) < (2 : Int32) * Int32.ofNat n.1 := by decide +kernel
def oDep (p : Int32) : Nat := if p.toInt ≤ 1 then 0 else if p.toInt ≤ 2 then 1 else if p.toInt ≤ 4 then 2 else if p.toInt ≤ 8 then 3 else 4
theorem oDep_le (p : Int32) : oDep p ≤ 4 := by unfold oDep; repeat' split
                                               all_goals omega

section OwnKit
variable {p : Program} {l : Launch} {e : Env} {R : Room} {s : State} {m : MethodId} {args : Array Value} {below : List Frame} {meth : Method} {c : Code} {T : State} {locs : List Loc} {cells slots : Nat} {Z : State} {a0 : Array Value} {h : Heap} {kc ks : Nat} {Q : Option Value → Heap → List Loc → Prop}
/-- the run from F comes to the method's end, where Q holds -/
def OWp (p : Program) (e : Env) (below : List Frame) (s : State) (kc ks : Nat) (Q : Option Value → Heap → List Loc → Prop) (F : State) : Prop :=
  ∃ s₂ o, Steps p.tables e below F s₂ ∧ s₂.status = .running ∧ Ended s₂ below o ∧ ∃ v L, o = .returned v ∧ Q v s₂.heap L ∧ FrameEnd s o s₂ L kc ks
theorem own_st {F F' : State} (h : ∀ t, Steps p.tables e below F' t → Steps p.tables e below F t) (w : OWp p e below s kc ks Q F') : OWp p e below s kc ks Q F := by
  obtain ⟨s₂, o, h1, r⟩ := w
  exact ⟨s₂, o, h _ h1, r⟩
theorem own_fin (X : Stand p l e R s m args below meth c T locs cells slots) {F : State} (v : Option Value) (hv : meth.sig.returnType = none → v = none) (hlocks : meth.locks = false) (hk : cells ≤ kc) (hn : slots ≤ ks)
    (hst : ∀ fs, (∀ (f : JFrame) (acts : List Action), f.method = m → f.locked = none → f.entered = [] → (doReturn e (T.setTop f) acts v).1 = T.setFrames fs) → Steps p.tables e below F (T.setFrames fs))
    (hq : Q v T.heap locs) : OWp p e below s kc ks Q F := by
  obtain ⟨fs, hr, hrun, hended, hW, hsame⟩ := X.leave (v := v) hv hlocks
  exact ⟨_, _, hst fs hr, hrun, hended, v, locs, rfl, hq, ⟨_, rfl⟩, hW, hsame.mono hk hn⟩
theorem own_irem_mod (x y : Int32) : x - (x / y) * y = x % y := by
  apply Int32.toInt_inj.mp
  rw [Int32.toInt_sub, Int32.toInt_mul, Int32.toInt_div, Int32.toInt_mod, Int.bmod_mul_bmod, Int.sub_bmod_bmod, Int.mul_comm, ← Int.tmod_def]
  have a := (x % y).toInt_lt; have b := (x % y).le_toInt
  rw [Int32.toInt_mod] at a b
  exact Int.bmod_eq_of_le (by omega) (by omega)
theorem own_irem {tb : Tables} [Ours tb] {e : Env} {below : List Frame} {T target : State} {m : MethodId} {c : Code} {g : JFrame} (h : At T m c below) (hx : tb.exec = Jvm.exec) (hg : g.method = m) {x y : Int32} {rest : List Value} (hd : decode c.code g.pc = .ok (.irem, 1)) (hs : g.stack = .int y :: .int x :: rest) (hy : y ≠ 0)
    (hr : Steps tb e below (T.setTop { g with pc := g.pc + 1, stack := .int (x % y) :: rest }) target) : Steps tb e below (T.setTop g) target :=
  XS.irem h hx hg hd hs hy (by rw [own_irem_mod]; exact hr)
theorem own_callS (X : Stand p l e R s m args below meth c T locs cells slots) (hx : p.tables.exec = Jvm.exec) (hZ : Z.Warmed39 s.vm) {own : String} {index : Nat} {y : MethodName} {bytes : ByteArray} {maxL : Nat} {ret : Option FieldType} {rm : Room} {Qc : Option Value → Heap → List Loc → Prop} {as' : Array Value}
    (hown : s.vm.findClass own = some m.cls) (wl : (Jvm.Cond.methodLink own index y).before a0 Z = true) (wst : (Jvm.Cond.static y).before a0 Z = true) (wz : (Jvm.Cond.initialized y.cls).before a0 Z = true) (wc : (Jvm.Cond.code y bytes maxL ret).before a0 Z = true)
    (hM : MetFree l y (head1 [Jvm.Cond.code y bytes maxL ret] rm) (fun a U => a = as' ∧ Z.Warmed39 U.vm ∧ U.heap = h) (fun _ _ _ _ _ => True) (fun _ U o U' => ∃ v L, o = .returned v ∧ Qc v U'.heap L ∧ FrameEnd U o U' L rm.cells rm.slots))
    (hy : y.cls ≠ "java/lang/invoke/MethodHandle" ∧ y.cls ≠ "java/lang/invoke/VarHandle") {W pc : Nat} {Ls : Array Slot} {stk argsL rest : List Value} (hf : rm.frames + 1 ≤ R.frames) (hl : W + (maxL + 11) + rm.locals ≤ R.locals)
    (hsize : Ls.size = c.maxLocals) (hlen : ∀ sig, parseMethodDescriptor y.desc = some sig → argsL.length = sig.parameters.length) (hstk : stk = argsL.reverse ++ rest) (has : argsL.toArray = as') (hW : 2 * 0 + (rest.map fun v => v.category).sum ≤ W)
    (hdg : decode c.code pc = .ok (.invokestatic index, 3)) (eT : T.heap = h) (hc : cells + rm.cells ≤ R.cells) (hs : slots + rm.slots ≤ R.slots)
    (k : ∀ v T' L, Qc v T'.heap L → Stand p l e R s m args below meth c T' (locs ++ L) (cells + rm.cells) (slots + rm.slots) → OWp p e below s kc ks Q (T'.setTop (mkF m (pc + 3) Ls (v.toList ++ rest)))) :
    OWp p e below s kc ks Q (T.setTop (mkF m pc Ls stk)) := by
  obtain ⟨v, _, ⟨T', L', k', n'⟩, -, X', ⟨Lc, hQ, l1, y1, z1⟩, st⟩ := Jvm.LawKit.callS X hx (y := y) hown (mvT hZ wl) (mvT hZ wst) (mvT hZ wz) (mvT hZ wc) hy (backOf (W := W) hM hZ wc wz hf hl) (g := mkF m pc Ls stk) rfl hsize (argsL := argsL) (rest := rest) hlen hstk hW hdg (fun _ _ => ⟨has, eT, hc, hs⟩)
  dsimp only [Pt.U, Pt.locs, Pt.cells, Pt.slots] at X' l1 y1 z1 st hQ
  subst l1 y1 z1
  exact own_st st (k v T' Lc hQ X')
theorem own_init (X : Stand p l e R s m args below meth c T locs cells slots) (hx : p.tables.exec = Jvm.exec) (hZ : Z.Warmed39 s.vm) {own : String} {index : Nat} {y : MethodName} {bytes : ByteArray} {maxL : Nat} {rm : Room} {Qc : Option Value → Heap → List Loc → Prop} {as' : Array Value}
    (hown : s.vm.findClass own = some m.cls) (hy1 : y.name = "<init>") (wl : (Jvm.Cond.methodLink own index y).before a0 Z = true) (wi : (Jvm.Cond.instanceMethod y).before a0 Z = true) (wz : (Jvm.Cond.initialized y.cls).before a0 Z = true) (wc : (Jvm.Cond.code y bytes maxL none).before a0 Z = true)
    (hM : MetFree l y (head1 [Jvm.Cond.code y bytes maxL none] rm) (fun a U => a = as' ∧ Z.Warmed39 U.vm ∧ U.heap = h) (fun _ _ _ _ _ => True) (fun _ U o U' => ∃ v L, o = .returned v ∧ Qc v U'.heap L ∧ FrameEnd U o U' L rm.cells rm.slots))
    (hy : y.cls ≠ "java/lang/invoke/MethodHandle" ∧ y.cls ≠ "java/lang/invoke/VarHandle") {W pc : Nat} {Ls : Array Slot} {stk argsL rest : List Value} {a : Addr} (hf : rm.frames + 1 ≤ R.frames) (hl : W + (maxL + 11) + rm.locals ≤ R.locals)
    (hsize : Ls.size = c.maxLocals) (hlen : ∀ sig, parseMethodDescriptor y.desc = some sig → argsL.length = sig.parameters.length) (hstk : stk = argsL.reverse ++ .ref a :: rest) (has : (.ref a :: argsL).toArray = as') (hW : 2 * 0 + (rest.map fun v => v.category).sum ≤ W)
    (hdg : decode c.code pc = .ok (.invokespecial index, 3)) (eT : T.heap = h) (hc : cells + rm.cells ≤ R.cells) (hs : slots + rm.slots ≤ R.slots)
    (k : ∀ v T' L, Qc v T'.heap L → Stand p l e R s m args below meth c T' (locs ++ L) (cells + rm.cells) (slots + rm.slots) → OWp p e below s kc ks Q (T'.setTop (mkF m (pc + 3) Ls (v.toList ++ rest)))) :
    OWp p e below s kc ks Q (T.setTop (mkF m pc Ls stk)) := by
  obtain ⟨v, _, ⟨T', L', k', n'⟩, -, X', ⟨Lc, hQ, l1, y1, z1⟩, st⟩ := X.specialBack hx (y := y) hy1 hown (mvT hZ wl) (mvT hZ wi) (mvT hZ wc) hy (backOf (W := W) hM hZ wc wz hf hl) (g := mkF m pc Ls stk) rfl hsize (Steps.refl _) (a := a) (argsL := argsL) (rest := rest) hlen hstk hW hdg (fun _ _ => ⟨has, eT, hc, hs⟩)
  dsimp only [Pt.U, Pt.locs, Pt.cells, Pt.slots] at X' l1 y1 z1 st hQ
  subst l1 y1 z1
  exact own_st (fun t q => st.trans q) (k v T' Lc hQ X')
theorem own_virt (X : Stand p l e R s m args below meth c T locs cells slots) (hx : p.tables.exec = Jvm.exec) (hZ : Z.Warmed39 s.vm) {own C : String} {index : Nat} {y : MethodName} {bytes : ByteArray} {maxL : Nat} {ret : Option FieldType} {rm : Room} {Qc : Option Value → Heap → List Loc → Prop} {as' : Array Value} {a : Addr}
    (hown : s.vm.findClass own = some m.cls) (wl : (Jvm.Cond.methodLink own index y).before a0 Z = true) (wd : (Jvm.Cond.declares y).before a0 Z = true) (wsel : (Jvm.Cond.selects C y y).before a0 Z = true) (wi : (Jvm.Cond.instanceMethod y).before a0 Z = true) (wz : (Jvm.Cond.initialized y.cls).before a0 Z = true) (wc : (Jvm.Cond.code y bytes maxL ret).before a0 Z = true)
    (E : Exa Z h a C)
    (hM : MetFree l y (head1 [Jvm.Cond.code y bytes maxL ret] rm) (fun a U => a = as' ∧ Z.Warmed39 U.vm ∧ U.heap = h) (fun _ _ _ _ _ => True) (fun _ U o U' => ∃ v L, o = .returned v ∧ Qc v U'.heap L ∧ FrameEnd U o U' L rm.cells rm.slots))
    (hy : y.cls ≠ "java/lang/invoke/MethodHandle" ∧ y.cls ≠ "java/lang/invoke/VarHandle") {W pc : Nat} {Ls : Array Slot} {stk argsL rest : List Value} (hf : rm.frames + 1 ≤ R.frames) (hl : W + (maxL + 11) + rm.locals ≤ R.locals)
    (hsize : Ls.size = c.maxLocals) (hlen : ∀ sig, parseMethodDescriptor y.desc = some sig → argsL.length = sig.parameters.length) (hstk : stk = argsL.reverse ++ .ref a :: rest) (has : (.ref a :: argsL).toArray = as') (hW : 2 * 0 + (rest.map fun v => v.category).sum ≤ W)
    (hdg : decode c.code pc = .ok (.invokevirtual index, 3)) (eT : T.heap = h) (hc : cells + rm.cells ≤ R.cells) (hs : slots + rm.slots ≤ R.slots)
    (k : ∀ v T' L, Qc v T'.heap L → Stand p l e R s m args below meth c T' (locs ++ L) (cells + rm.cells) (slots + rm.slots) → OWp p e below s kc ks Q (T'.setTop (mkF m (pc + 3) Ls (v.toList ++ rest)))) :
    OWp p e below s kc ks Q (T.setTop (mkF m pc Ls stk)) := by
  obtain ⟨cq, kq, qa, qb, qc⟩ := isOf hZ eT E
  obtain ⟨v, _, ⟨T', L', k', n'⟩, -, X', ⟨Lc, hQ, l1, y1, z1⟩, st⟩ := X.virtualBack hx (y := y) (z := y) hown (mvT hZ wl) (mvT hZ wd) (notFace_of_selects (args := #[]) (mvT hZ wsel)) (mvT hZ wsel) (mvT hZ wi) hy (backOf (W := W) hM hZ wc wz hf hl) qa qc (g := mkF m pc Ls stk) rfl hsize (Steps.refl _) (argsL := argsL) (rest := rest) hlen hstk hW hdg (fun _ _ => ⟨has, eT, hc, hs⟩)
  dsimp only [Pt.U, Pt.locs, Pt.cells, Pt.slots] at X' l1 y1 z1 st hQ
  subst l1 y1 z1
  exact own_st (fun t q => st.trans q) (k v T' Lc hQ X')
theorem own_len (X : Stand p l e R s m args below meth c T locs cells slots) (hx : p.tables.exec = Jvm.exec) (hZ : Z.Warmed39 s.vm) (eT : T.heap = h) {a : Addr} {k : ClassId} {ty : FieldType} {n : Int32} {vs : List Value} {dv : Value} (A : Arv Z h a k ty n vs dv)
    {pc : Nat} {Ls : Array Slot} {rest : List Value} (hd : decode c.code pc = .ok (.arraylength, 1)) :
    ∀ t, Steps p.tables e below (T.setTop (mkF m (pc + 1) Ls (.int n :: rest))) t → Steps p.tables e below (T.setTop (mkF m pc Ls (.ref a :: rest))) t := fun t q => by
  obtain ⟨cl, Ar, -, hS, hN, -, -⟩ := A
  refine X.arraylength hx (by rw [eT]; exact Ar.1) (State.isArrayOf_alike hZ.alike Ar.2.1) (g := mkF m pc Ls (.ref a :: rest)) rfl rfl hd _ ?_
  rw [len_of hS hN]; exact q
theorem own_ild (X : Stand p l e R s m args below meth c T locs cells slots) (hx : p.tables.exec = Jvm.exec) (hZ : Z.Warmed39 s.vm) (eT : T.heap = h) {a : Addr} {k : ClassId} {n : Int32} {vs : List Value} {dv : Value} (A : Arv Z h a k .int n vs dv)
    {pc : Nat} {Ls : Array Slot} {rest : List Value} {j w : Int32} (h0 : ¬ j < 0) (hlt : j < n) (hv : vs.getD j.toNatClampNeg dv = .int w) (hd : decode c.code pc = .ok (.iaload, 1)) :
    ∀ t, Steps p.tables e below (T.setTop (mkF m (pc + 1) Ls (.int w :: rest))) t → Steps p.tables e below (T.setTop (mkF m pc Ls (.int j :: .ref a :: rest))) t := fun t q => by
  obtain ⟨cl, Ar, -, hS, hN, H, -⟩ := A
  have hin := inb_of hS ⟨h0, hlt⟩
  exact X.iaload hx (j := j) (v := .int w) (by rw [eT]; exact Ar.1) (State.isArrayOf_alike hZ.alike Ar.2.1) Ar.2.2 hin (by rw [H _ (Nat.lt_of_not_le fun q => hin (Or.inr q)), hv]) (g := mkF m pc Ls (.int j :: .ref a :: rest)) rfl rfl hd _ q
theorem own_elt {a : Addr} {k : ClassId} {n : Int32} {vs : List Value} {dv : Value} (A : Arv Z h a k .int n vs dv) {j : Int32} (h0 : ¬ j < 0) (hlt : j < n) : ∃ w : Int32, vs.getD j.toNatClampNeg dv = .int w := by
  obtain ⟨cl, Ar, -, hS, hN, H, G⟩ := A
  have hin := inb_of hS ⟨h0, hlt⟩
  have g := G _ (Nat.lt_of_not_le fun q => hin (Or.inr q))
  cases hv : vs.getD j.toNatClampNeg dv <;> rw [hv] at g <;> first | exact ⟨_, rfl⟩ | cases g
theorem own_ist (X : Stand p l e R s m args below meth c T locs cells slots) (hx : p.tables.exec = Jvm.exec) (hZ : Z.Warmed39 s.vm) (eT : T.heap = h) {a : Addr} {k : ClassId} {n : Int32} {vs : List Value} {dv : Value} (A : Arv Z h a k .int n vs dv)
    {pc : Nat} {Ls : Array Slot} {rest : List Value} {j x : Int32} (i : Nat) (hj : j.toNatClampNeg = i) (h0 : ¬ j < 0) (hlt : j < n) (hi : i < vs.length) (hd : decode c.code pc = .ok (.iastore, 1)) :
    ∃ T' h', Stand p l e R s m args below meth c T' (locs ++ [⟨a, j.toNatClampNeg⟩]) cells slots ∧ T'.heap = h' ∧ Wr h h' a j.toNatClampNeg (.int x) ∧ Arv Z h' a k .int n (vs.set i (.int x)) dv ∧
      ∀ t, Steps p.tables e below (T'.setTop (mkF m (pc + 1) Ls rest)) t → Steps p.tables e below (T.setTop (mkF m pc Ls (.int x :: .int j :: .ref a :: rest))) t := by
  obtain ⟨cl, Ar, q1, hS, hN, H, G⟩ := A
  obtain ⟨T', h', X', e', W', st⟩ := stI X hx hZ eT Ar (j := j) (x := x) (inb_of hS ⟨h0, hlt⟩) (g := mkF m pc Ls (.int x :: .int j :: .ref a :: rest)) rfl rfl hd
  exact ⟨T', h', X', e', W', Arv.set Ar q1 hS hN H G rfl W' i hj hi, st⟩
theorem own_ald (X : Stand p l e R s m args below meth c T locs cells slots) (hx : p.tables.exec = Jvm.exec) (hZ : Z.Warmed39 s.vm) (eT : T.heap = h) {a : Addr} {k : ClassId} {C : String} {n : Int32} {vs : List Value} {dv : Value} (A : Arv Z h a k (.object C) n vs dv)
    {pc : Nat} {Ls : Array Slot} {rest : List Value} {j : Int32} {w : Addr} (h0 : ¬ j < 0) (hlt : j < n) (hv : vs.getD j.toNatClampNeg dv = .ref w) (hd : decode c.code pc = .ok (.aaload, 1)) :
    ∀ t, Steps p.tables e below (T.setTop (mkF m (pc + 1) Ls (.ref w :: rest))) t → Steps p.tables e below (T.setTop (mkF m pc Ls (.int j :: .ref a :: rest))) t := fun t q => by
  obtain ⟨cl, Ar, -, hS, hN, H, -⟩ := A
  have hin := inb_of hS ⟨h0, hlt⟩
  exact X.aaload hx (j := j) (v := .ref w) (by rw [eT]; exact Ar.1) (State.isArrayOf_alike hZ.alike Ar.2.1) rfl Ar.2.2 hin (by rw [H _ (Nat.lt_of_not_le fun q => hin (Or.inr q)), hv]) (g := mkF m pc Ls (.int j :: .ref a :: rest)) rfl rfl hd _ q
theorem own_ast (X : Stand p l e R s m args below meth c T locs cells slots) (hx : p.tables.exec = Jvm.exec) (hZ : Z.Warmed39 s.vm) (eT : T.heap = h) {a : Addr} {k : ClassId} {C : String} {n : Int32} {vs : List Value} {dv : Value} (A : Arv Z h a k (.object C) n vs dv) (O : Ovr Z k C) {y : Addr} (I : Ins Z h y C true)
    {pc : Nat} {Ls : Array Slot} {rest : List Value} {j : Int32} (i : Nat) (hj : j.toNatClampNeg = i) (h0 : ¬ j < 0) (hlt : j < n) (hi : i < vs.length) (hd : decode c.code pc = .ok (.aastore, 1)) :
    ∃ T' h', Stand p l e R s m args below meth c T' (locs ++ [⟨a, j.toNatClampNeg⟩]) cells slots ∧ T'.heap = h' ∧ Wr h h' a j.toNatClampNeg (.ref y) ∧ Arv Z h' a k (.object C) n (vs.set i (.ref y)) dv ∧
      ∀ t, Steps p.tables e below (T'.setTop (mkF m (pc + 1) Ls rest)) t → Steps p.tables e below (T.setTop (mkF m pc Ls (.ref y :: .int j :: .ref a :: rest))) t := by
  obtain ⟨cl, Ar, q1, hS, hN, H, G⟩ := A
  obtain ⟨T', h', X', e', W', st⟩ := stR X hx hZ eT Ar (j := j) (v := .ref y) (inb_of hS ⟨h0, hlt⟩) rfl (Sto.of Ar (q1 ▸ O) I) (g := mkF m pc Ls (.ref y :: .int j :: .ref a :: rest)) rfl rfl hd
  exact ⟨T', h', X', e', W', Arv.set Ar q1 hS hN H G rfl W' i hj hi, st⟩
theorem own_kext {h h' : Heap} (K : Keep h h' []) : Ext h h' := ⟨K.1, fun a c q => K.2.1 a c q (by simp)⟩
end OwnKit

section OwnKit2
variable {p : Program} {l : Launch} {e : Env} {R : Room} {s : State} {m : MethodId} {args : Array Value} {below : List Frame} {meth : Method} {c : Code} {T : State} {locs : List Loc} {cells slots : Nat} {Z : State} {a0 : Array Value} {h h' : Heap} {kc ks : Nat} {Q : Option Value → Heap → List Loc → Prop}
/-- the model's own selection picks a private method itself -/
theorem own_selp {s : State} {args : Array Value} {n : Nat} {y : MethodName} (hy : y.cls ≠ "java/lang/invoke/MethodHandle" ∧ y.cls ≠ "java/lang/invoke/VarHandle") (hins : (Jvm.Cond.instantiable y.cls n).before args s = true) (hpriv : (Jvm.Cond.privateMethod y).before args s = true) (hinst : (Jvm.Cond.instanceMethod y).before args s = true) :
    (Jvm.Cond.selects y.cls y y).before args s = true := by
  obtain ⟨c, k, hc, hk, -, hniab, -, -⟩ := Cond.instantiable_spec hins
  have hni : k.isInterface = false := (Bool.or_eq_false_iff.mp hniab).1
  obtain ⟨mk, methM, hnamed, hmethM, -, -⟩ := Cond.instanceMethod_spec hinst
  have hfound : s.methodFound? y.cls y.name y.desc = some mk := State.methodFound?_of_named hnamed hy
  have hcls : mk.cls = c := Option.some.inj ((findClass_of_methodNamed hnamed).symm.trans hc)
  have hsel : selectMethod {} s.vm c mk = .method mk := selectMethod_private hmethM (Cond.privateMethod_at hpriv mk methM hnamed hmethM)
  simp only [Cond.before, Cond.holds, Cond.value, hc, hfound, hnamed, hsel, hcls, hk]
  simp; exact hni
theorem own_priv (X : Stand p l e R s m args below meth c T locs cells slots) (hx : p.tables.exec = Jvm.exec) (hZ : Z.Warmed39 s.vm) {own C : String} {index nn : Nat} {y : MethodName} {bytes : ByteArray} {maxL : Nat} {ret : Option FieldType} {rm : Room} {Qc : Option Value → Heap → List Loc → Prop} {as' : Array Value} {a : Addr}
    (hown : s.vm.findClass own = some m.cls) (wl : (Jvm.Cond.methodLink own index y).before a0 Z = true) (wi : (Jvm.Cond.instanceMethod y).before a0 Z = true) (wp : (Jvm.Cond.privateMethod y).before a0 Z = true) (wn : (Jvm.Cond.instantiable y.cls nn).before a0 Z = true) (wz : (Jvm.Cond.initialized y.cls).before a0 Z = true) (wc : (Jvm.Cond.code y bytes maxL ret).before a0 Z = true)
    (E : Exa Z h a C)
    (hM : MetFree l y (head1 [Jvm.Cond.code y bytes maxL ret] rm) (fun a U => a = as' ∧ Z.Warmed39 U.vm ∧ U.heap = h) (fun _ _ _ _ _ => True) (fun _ U o U' => ∃ v L, o = .returned v ∧ Qc v U'.heap L ∧ FrameEnd U o U' L rm.cells rm.slots))
    (hy : y.cls ≠ "java/lang/invoke/MethodHandle" ∧ y.cls ≠ "java/lang/invoke/VarHandle") {W pc : Nat} {Ls : Array Slot} {stk argsL rest : List Value} (hf : rm.frames + 1 ≤ R.frames) (hl : W + (maxL + 11) + rm.locals ≤ R.locals)
    (hsize : Ls.size = c.maxLocals) (hlen : ∀ sig, parseMethodDescriptor y.desc = some sig → argsL.length = sig.parameters.length) (hstk : stk = argsL.reverse ++ .ref a :: rest) (has : (.ref a :: argsL).toArray = as') (hW : 2 * 0 + (rest.map fun v => v.category).sum ≤ W)
    (hdg : decode c.code pc = .ok (.invokevirtual index, 3)) (eT : T.heap = h) (hc : cells + rm.cells ≤ R.cells) (hs : slots + rm.slots ≤ R.slots)
    (k : ∀ v T' L, Qc v T'.heap L → Stand p l e R s m args below meth c T' (locs ++ L) (cells + rm.cells) (slots + rm.slots) → OWp p e below s kc ks Q (T'.setTop (mkF m (pc + 3) Ls (v.toList ++ rest)))) :
    OWp p e below s kc ks Q (T.setTop (mkF m pc Ls stk)) := by
  obtain ⟨cq, q1, q2⟩ := E.cell
  obtain ⟨v, _, ⟨T', L', k', n'⟩, -, X', ⟨Lc, hQ, l1, y1, z1⟩, st⟩ := X.privateBack hx (y := y) hown (mvT hZ wl) (mvT hZ wi) (own_selp (args := args) hy (mvT hZ wn) (mvP hZ wp) (mvT hZ wi)) (Cond.privateMethod_at (mvP hZ wp (args := #[]))) (mvT hZ wc) hy (backOf (W := W) hM hZ wc wz hf hl) (g := mkF m pc Ls stk) rfl hsize (Steps.refl _) (a := a) (by rw [eT]; exact q1) q2 (argsL := argsL) (rest := rest) hlen hstk hW hdg (fun _ _ => ⟨has, eT, hc, hs⟩)
  dsimp only [Pt.U, Pt.locs, Pt.cells, Pt.slots] at X' l1 y1 z1 st hQ
  subst l1 y1 z1
  exact own_st (fun t q => st.trans q) (k v T' Lc hQ X')
/-- an int array whose i-th place holds f i -/
def OArr (Z : State) (h : Heap) (b : Addr) (n : Int32) (f : Nat → Nat) : Prop := ∃ k vs, Arv Z h b k .int n vs (.int (0 : Int32)) ∧ vs.length = n.toNatClampNeg ∧ ∀ i, i < n.toNatClampNeg → vs.getD i (.int (0 : Int32)) = .int (Int32.ofNat (f i)) ∧ f i < 64
theorem OArr.lt {b : Addr} {n : Int32} {f : Nat → Nat} (A : OArr Z h b n f) : b < h.size := by obtain ⟨_, _, A, -⟩ := A; exact A.lt
theorem OArr.ext {b : Addr} {n : Int32} {f : Nat → Nat} (A : OArr Z h b n f) (E : Ext h h') : OArr Z h' b n f := by obtain ⟨k, vs, A, r⟩ := A; exact ⟨k, vs, A.ext E, r⟩
theorem OArr.other {b a : Addr} {n : Int32} {f : Nat → Nat} {sl : Nat} {v : Value} (A : OArr Z h b n f) (W : Wr h h' a sl v) (q : b ≠ a) : OArr Z h' b n f := by obtain ⟨k, vs, A, r⟩ := A; exact ⟨k, vs, A.other W q, r⟩
theorem OArr.keep {b : Addr} {n : Int32} {f : Nat → Nat} {ws : List Addr} (A : OArr Z h b n f) (K : Keep h h' ws) (q : b ∉ ws) : OArr Z h' b n f := by obtain ⟨k, vs, A, r⟩ := A; exact ⟨k, vs, A.keep K q, r⟩
theorem own_ofnat {i : Nat} (hi : i < 2147483648) : (Int32.ofNat i).toInt = i := by
  rw [Int32.toInt_ofNat']
  show Int.bmod i 4294967296 = i
  exact Int.bmod_eq_of_le (by omega) (by omega)
theorem own_clamp {i : Nat} (hi : i < 2147483648) : (Int32.ofNat i).toNatClampNeg = i := by
  show (Int32.ofNat i).toInt.toNat = i
  rw [own_ofnat hi]; rfl
theorem own_inj {i j : Nat} (hi : i < 2147483648) (hj : j < 2147483648) : Int32.ofNat i = Int32.ofNat j ↔ i = j := by
  rw [← Int32.toInt_inj, own_ofnat hi, own_ofnat hj]; omega
theorem own_lt {i j : Nat} (hi : i < 2147483648) (hj : j < 2147483648) : Int32.ofNat i < Int32.ofNat j ↔ i < j := by
  rw [Int32.lt_iff_toInt_lt, own_ofnat hi, own_ofnat hj]; omega
theorem own_nn {i : Nat} (hi : i < 2147483648) : ¬ Int32.ofNat i < 0 := by
  rw [Int32.lt_iff_toInt_lt, own_ofnat hi, Int32.toInt_zero]; omega
theorem own_below {i : Nat} {n : Int32} (hi : i < 2147483648) (hn : i < n.toNatClampNeg) : Int32.ofNat i < n := by
  have h2 : i < n.toInt.toNat := hn
  rw [Int32.lt_iff_toInt_lt, own_ofnat hi]; omega
theorem own_flen (X : Stand p l e R s m args below meth c T locs cells slots) (hx : p.tables.exec = Jvm.exec) (hZ : Z.Warmed39 s.vm) (eT : T.heap = h) {b : Addr} {n : Int32} {f : Nat → Nat} (A : OArr Z h b n f)
    {pc : Nat} {Ls : Array Slot} {rest : List Value} (hd : decode c.code pc = .ok (.arraylength, 1)) :
    ∀ t, Steps p.tables e below (T.setTop (mkF m (pc + 1) Ls (.int n :: rest))) t → Steps p.tables e below (T.setTop (mkF m pc Ls (.ref b :: rest))) t := by
  obtain ⟨_, _, A, -⟩ := A; exact own_len X hx hZ eT A hd
theorem own_fld (X : Stand p l e R s m args below meth c T locs cells slots) (hx : p.tables.exec = Jvm.exec) (hZ : Z.Warmed39 s.vm) (eT : T.heap = h) {b : Addr} {n : Int32} {f : Nat → Nat} (A : OArr Z h b n f) {i : Nat} (hi : i < n.toNatClampNeg)
    {pc : Nat} {Ls : Array Slot} {rest : List Value} (hd : decode c.code pc = .ok (.iaload, 1)) :
    ∀ t, Steps p.tables e below (T.setTop (mkF m (pc + 1) Ls (.int (Int32.ofNat (f i)) :: rest))) t → Steps p.tables e below (T.setTop (mkF m pc Ls (.int (Int32.ofNat i) :: .ref b :: rest))) t := by
  obtain ⟨k, vs, A, hl, hf⟩ := A
  have hb : i < 2147483648 := by have := n.toInt_lt; have q : i < n.toInt.toNat := hi; omega
  exact own_ild X hx hZ eT A (own_nn hb) (own_below hb hi) (by rw [own_clamp hb]; exact (hf i hi).1) hd
theorem own_fst (X : Stand p l e R s m args below meth c T locs cells slots) (hx : p.tables.exec = Jvm.exec) (hZ : Z.Warmed39 s.vm) (eT : T.heap = h) {b : Addr} {n : Int32} {f : Nat → Nat} (A : OArr Z h b n f) {i x : Nat} (hi : i < n.toNatClampNeg) (hx64 : x < 64)
    {pc : Nat} {Ls : Array Slot} {rest : List Value} (hd : decode c.code pc = .ok (.iastore, 1)) :
    ∃ T' h' sl, Stand p l e R s m args below meth c T' (locs ++ [⟨b, sl⟩]) cells slots ∧ T'.heap = h' ∧ Wr h h' b sl (.int (Int32.ofNat x)) ∧ OArr Z h' b n (oUpd f i x) ∧
      ∀ t, Steps p.tables e below (T'.setTop (mkF m (pc + 1) Ls rest)) t → Steps p.tables e below (T.setTop (mkF m pc Ls (.int (Int32.ofNat x) :: .int (Int32.ofNat i) :: .ref b :: rest))) t := by
  obtain ⟨k, vs, A, hl, hf⟩ := A
  have hb : i < 2147483648 := by have := n.toInt_lt; have q : i < n.toInt.toNat := hi; omega
  obtain ⟨T', h', X', e', W', A', st⟩ := own_ist X hx hZ eT A (x := Int32.ofNat x) (j := Int32.ofNat i) i (own_clamp hb) (own_nn hb) (own_below hb hi) (by rw [hl]; exact hi) hd (pc := pc) (Ls := Ls) (rest := rest)
  refine ⟨T', h', _, X', e', W', ⟨k, _, A', by rw [List.length_set]; exact hl, fun j hj => ?_⟩, st⟩
  by_cases q : j = i
  · subst q
    rw [oUpd_same]
    refine ⟨?_, hx64⟩
    rw [List.getD_eq_getElem?_getD, List.getElem?_set_self (by rw [hl]; exact hi)]; rfl
  · rw [oUpd_ne q, List.getD_eq_getElem?_getD, List.getElem?_set_ne (fun z => q z.symm), ← List.getD_eq_getElem?_getD]
    exact hf j hj
theorem OArr.zero {b : Addr} {k : ClassId} {n : Int32} {w : Nat} (A : Arv Z h b k .int n (List.replicate w (.int (0 : Int32))) (.int (0 : Int32))) (hw : w = n.toNatClampNeg) : OArr Z h b n (fun _ => 0) :=
  ⟨k, _, A, by rw [List.length_replicate]; exact hw, fun i hi => ⟨by rw [List.getD_eq_getElem?_getD, List.getElem?_replicate]; split <;> rfl, by show 0 < 64; decide⟩⟩
end OwnKit2

def OFos (Z : State) (h : Heap) (a1 bl bh bt bs : Addr) (d : Nat) (S : OSt) : Prop :=
  Exa Z h a1 "com/example/slackline/slackline/planning/FileOrderSets" ∧ Fld Z h a1 "com/example/slackline/slackline/planning/FileOrderSets" "depth" "I" (.int (Int32.ofNat d)) ∧ Fld Z h a1 "com/example/slackline/slackline/planning/FileOrderSets" "lows" "[I" (.ref bl) ∧ Fld Z h a1 "com/example/slackline/slackline/planning/FileOrderSets" "highs" "[I" (.ref bh) ∧ Fld Z h a1 "com/example/slackline/slackline/planning/FileOrderSets" "table" "[I" (.ref bt) ∧ Fld Z h a1 "com/example/slackline/slackline/planning/FileOrderSets" "stamps" "[I" (.ref bs) ∧ Fld Z h a1 "com/example/slackline/slackline/planning/FileOrderSets" "count" "I" (.int (Int32.ofNat (oCn S))) ∧ Fld Z h a1 "com/example/slackline/slackline/planning/FileOrderSets" "stamp" "I" (.int (Int32.ofNat (oSt S))) ∧ OArr Z h bl 16 (oLo S) ∧ OArr Z h bh 16 (oHi S) ∧ OArr Z h bt 32 (oTa S) ∧ OArr Z h bs 32 (oSp S)
def ODis (a1 bl bh bt bs : Addr) : Prop := a1 ≠ bl ∧ a1 ≠ bh ∧ a1 ≠ bt ∧ a1 ≠ bs ∧ bl ≠ bh ∧ bl ≠ bt ∧ bl ≠ bs ∧ bh ≠ bt ∧ bh ≠ bs ∧ bt ≠ bs
theorem OFos.keep {Z : State} {h h' : Heap} {a1 bl bh bt bs : Addr} {d : Nat} {S : OSt} {ws : List Addr} (I : OFos Z h a1 bl bh bt bs d S) (K : Keep h h' ws) (q : ∀ y ∈ [a1, bl, bh, bt, bs], y ∉ ws) : OFos Z h' a1 bl bh bt bs d S := by
  have qa := q a1 (by simp); have ql := q bl (by simp); have qh := q bh (by simp); have qt := q bt (by simp); have qs := q bs (by simp)
  obtain ⟨E, f1, f2, f3, f4, f5, f6, f7, x1, x2, x3, x4⟩ := I
  exact ⟨E.keep K, f1.keep K qa, f2.keep K qa, f3.keep K qa, f4.keep K qa, f5.keep K qa, f6.keep K qa, f7.keep K qa, x1.keep K ql, x2.keep K qh, x3.keep K qt, x4.keep K qs⟩
theorem OArr.b64 {Z : State} {h : Heap} {b : Addr} {n : Int32} {f : Nat → Nat} (A : OArr Z h b n f) {i : Nat} (hi : i < n.toNatClampNeg) : f i < 64 := by obtain ⟨_, _, _, _, hf⟩ := A; exact (hf i hi).2
theorem own_d4 {d : Nat} (h : d ≤ 4) : d = 0 ∨ d = 1 ∨ d = 2 ∨ d = 3 ∨ d = 4 := by omega
theorem own_z {i : Nat} (hi : i < 2147483648) : Int32.ofNat i = (0 : Int32) ↔ i = 0 := own_inj (j := 0) hi (by decide)
theorem own_16 {i : Nat} (hi : i ≤ 15) : ¬ Int32.ofNat i = (16 : Int32) := fun q => by have := (own_inj (i := i) (j := 16) (by omega) (by decide)).mp q; omega

theorem own_lev0 (p1 : Int32) : (lcmpW ((1 : Int64) <<< ((0 : Int32) &&& 0x3f).toInt64) (p1.toInt64)) < (0 : Int32) ↔ 1 < p1.toInt := by
  rw [lw_lt, Int64.lt_iff_toInt_lt, Int32.toInt_toInt64]; exact Iff.rfl
theorem own_lev1 (p1 : Int32) : (lcmpW ((1 : Int64) <<< ((1 : Int32) &&& 0x3f).toInt64) (p1.toInt64)) < (0 : Int32) ↔ 2 < p1.toInt := by
  rw [lw_lt, Int64.lt_iff_toInt_lt, Int32.toInt_toInt64]; exact Iff.rfl
theorem own_lev2 (p1 : Int32) : (lcmpW ((1 : Int64) <<< ((2 : Int32) &&& 0x3f).toInt64) (p1.toInt64)) < (0 : Int32) ↔ 4 < p1.toInt := by
  rw [lw_lt, Int64.lt_iff_toInt_lt, Int32.toInt_toInt64]; exact Iff.rfl
theorem own_lev3 (p1 : Int32) : (lcmpW ((1 : Int64) <<< ((3 : Int32) &&& 0x3f).toInt64) (p1.toInt64)) < (0 : Int32) ↔ 8 < p1.toInt := by
  rw [lw_lt, Int64.lt_iff_toInt_lt, Int32.toInt_toInt64]; exact Iff.rfl
theorem own_lev4 (p1 : Int32) : (lcmpW ((1 : Int64) <<< ((4 : Int32) &&& 0x3f).toInt64) (p1.toInt64)) < (0 : Int32) ↔ 16 < p1.toInt := by
  rw [lw_lt, Int64.lt_iff_toInt_lt, Int32.toInt_toInt64]; exact Iff.rfl
theorem own_pl (p1 : Int32) : 1 ≤ ((1 : Int32) + (p1 &&& (15 : Int32))).toInt ∧ ((1 : Int32) + (p1 &&& (15 : Int32))).toInt ≤ 16 := by
  have h1 := c_mask p1 15 4 (by decide) (by decide)
  have h3 := c_iadd 1 (p1 &&& (15 : Int32))
  have h4 := rng32 ((1 : Int32) + (p1 &&& (15 : Int32)))
  simp only [Int32.reduceToInt] at *
  omega
theorem own_apart {a b : List Addr} {N : Nat} (ha : ∀ x ∈ a, x < N) (hb : ∀ y ∈ b, N ≤ y) : (∀ y ∈ b, y ∉ a) ∧ (∀ x ∈ a, x ∉ b) :=
  ⟨fun y hy hy2 => absurd (ha y hy2) (Nat.not_lt.mpr (hb y hy)), fun x hx hx2 => absurd (ha x hx) (Nat.not_lt.mpr (hb x hx2))⟩
theorem OFos.lts {Z : State} {h : Heap} {a1 bl bh bt bs : Addr} {d : Nat} {S : OSt} (I : OFos Z h a1 bl bh bt bs d S) : ∀ x ∈ [a1, bl, bh, bt, bs], x < h.size := by
  obtain ⟨E, f1, f2, f3, f4, f5, f6, f7, x1, x2, x3, x4⟩ := I
  intro x hx
  simp only [List.mem_cons, List.not_mem_nil, or_false] at hx
  rcases hx with rfl | rfl | rfl | rfl | rfl
  · exact E.lt
  · exact x1.lt
  · exact x2.lt
  · exact x3.lt
  · exact x4.lt
theorem own_ges {N : Nat} {a1 bl bh bt bs : Addr} (h1 : N ≤ a1) (h2 : N ≤ bl) (h3 : N ≤ bh) (h4 : N ≤ bt) (h5 : N ≤ bs) : ∀ x ∈ [a1, bl, bh, bt, bs], N ≤ x := by
  intro x hx
  simp only [List.mem_cons, List.not_mem_nil, or_false] at hx
  rcases hx with rfl | rfl | rfl | rfl | rfl <;> assumption

theorem own_pd0 : parseMethodDescriptor "(I)I" = some ⟨[.int], some .int⟩ := by decide +kernel
theorem own_pd1 : parseMethodDescriptor "(II)I" = some ⟨[.int, .int], some .int⟩ := by decide +kernel
theorem own_pd2 : parseMethodDescriptor "(II)Z" = some ⟨[.int, .int], some .boolean⟩ := by decide +kernel
theorem own_pd3 : parseMethodDescriptor "(III)I" = some ⟨[.int, .int, .int], some .int⟩ := by decide +kernel
theorem own_pd4 : parseMethodDescriptor "(I)V" = some ⟨[.int], none⟩ := by decide +kernel
theorem own_pd5 : parseMethodDescriptor "()V" = some ⟨[], none⟩ := by decide +kernel
theorem d11_0 : decode jdk_33_method_48_code 0 = .ok (.iload_n 0, 1) := by decide +kernel
theorem d11_1 : decode jdk_33_method_48_code 1 = .ok (.iconst (-1), 1) := by decide +kernel
theorem d11_2 : decode jdk_33_method_48_code 2 = .ok (.ixor, 1) := by decide +kernel
theorem d11_3 : decode jdk_33_method_48_code 3 = .ok (.iload_n 0, 1) := by decide +kernel
theorem d11_4 : decode jdk_33_method_48_code 4 = .ok (.iconst 1, 1) := by decide +kernel
theorem d11_5 : decode jdk_33_method_48_code 5 = .ok (.isub, 1) := by decide +kernel
theorem d11_6 : decode jdk_33_method_48_code 6 = .ok (.iand, 1) := by decide +kernel
theorem d11_7 : decode jdk_33_method_48_code 7 = .ok (.istore_n 0, 1) := by decide +kernel
theorem d11_8 : decode jdk_33_method_48_code 8 = .ok (.iload_n 0, 1) := by decide +kernel
theorem d11_9 : decode jdk_33_method_48_code 9 = .ok (.ifCond .gt 8, 3) := by decide +kernel
theorem d11_17 : decode jdk_33_method_48_code 17 = .ok (.iconst 1, 1) := by decide +kernel
theorem d11_18 : decode jdk_33_method_48_code 18 = .ok (.istore_n 1, 1) := by decide +kernel
theorem d11_19 : decode jdk_33_method_48_code 19 = .ok (.iload_n 0, 1) := by decide +kernel
theorem d11_20 : decode jdk_33_method_48_code 20 = .ok (.ldc_w 264, 3) := by decide +kernel
theorem d11_23 : decode jdk_33_method_48_code 23 = .ok (.if_icmp .le 11, 3) := by decide +kernel
theorem d11_34 : decode jdk_33_method_48_code 34 = .ok (.iload_n 0, 1) := by decide +kernel
theorem d11_35 : decode jdk_33_method_48_code 35 = .ok (.sipush 256, 3) := by decide +kernel
theorem d11_38 : decode jdk_33_method_48_code 38 = .ok (.if_icmp .le 11, 3) := by decide +kernel
theorem d11_49 : decode jdk_33_method_48_code 49 = .ok (.iload_n 0, 1) := by decide +kernel
theorem d11_50 : decode jdk_33_method_48_code 50 = .ok (.bipush 16, 2) := by decide +kernel
theorem d11_52 : decode jdk_33_method_48_code 52 = .ok (.if_icmp .le 10, 3) := by decide +kernel
theorem d11_55 : decode jdk_33_method_48_code 55 = .ok (.iinc 1 4, 3) := by decide +kernel
theorem d11_58 : decode jdk_33_method_48_code 58 = .ok (.iload_n 0, 1) := by decide +kernel
theorem d11_59 : decode jdk_33_method_48_code 59 = .ok (.iconst 4, 1) := by decide +kernel
theorem d11_60 : decode jdk_33_method_48_code 60 = .ok (.iushr, 1) := by decide +kernel
theorem d11_61 : decode jdk_33_method_48_code 61 = .ok (.istore_n 0, 1) := by decide +kernel
theorem d11_62 : decode jdk_33_method_48_code 62 = .ok (.iload_n 0, 1) := by decide +kernel
theorem d11_63 : decode jdk_33_method_48_code 63 = .ok (.iconst 4, 1) := by decide +kernel
theorem d11_64 : decode jdk_33_method_48_code 64 = .ok (.if_icmp .le 10, 3) := by decide +kernel
theorem d11_74 : decode jdk_33_method_48_code 74 = .ok (.iload_n 1, 1) := by decide +kernel
theorem d11_75 : decode jdk_33_method_48_code 75 = .ok (.iload_n 0, 1) := by decide +kernel
theorem d11_76 : decode jdk_33_method_48_code 76 = .ok (.iconst 1, 1) := by decide +kernel
theorem d11_77 : decode jdk_33_method_48_code 77 = .ok (.iushr, 1) := by decide +kernel
theorem d11_78 : decode jdk_33_method_48_code 78 = .ok (.iadd, 1) := by decide +kernel
theorem d11_79 : decode jdk_33_method_48_code 79 = .ok (.ireturn, 1) := by decide +kernel
def Q11  (h0 : Heap) (n0 : Nat) (v : Option Value) (h : Heap) (L : List Loc) : Prop := v = some (.int 5) ∧ Fr n0 L ∧ h = h0
theorem ef_11 (m : MethodId) : entryFrame m #[(.int (32 : Int32))] 2 = mkF m 0 #[.val (.int (32 : Int32)), .unset] [] := by first | (simp [entryFrame, mkF, argsToLocals, Value.category]; done) | rfl
theorem pn_11 : plainName "java/lang/Integer" = true := by first | (simp [plainName, overriddenIn]; done) | decide +kernel
set_option maxRecDepth 65536 in
set_option maxHeartbeats 40000000 in
theorem rm11 (l : Launch) (Z : State) (a0 : Array Value) (hw : ∀ d ∈ tables_1, d.before a0 Z = true) (ws : List Jvm.Cond)  (h0 : Heap) (n0 : Nat) (Z0 : n0 ≤ h0.size)  :
    MetFree l (⟨"java/lang/Integer", "numberOfTrailingZeros", "(I)I"⟩ : MethodName) (head1 (Jvm.Cond.code (⟨"java/lang/Integer", "numberOfTrailingZeros", "(I)I"⟩ : MethodName) jdk_33_method_48_code 2 (some .int) :: ws) ({ frames := 0, cells := 0, slots := 0, locals := 0 } : Room)) (fun a U => a = #[(.int (32 : Int32))] ∧ Z.Warmed39 U.vm ∧ U.heap = h0) (fun _ _ _ _ _ => True) (fun _ U o U' => ∃ v L, o = .returned v ∧ Q11  h0 n0 v U'.heap L ∧ FrameEnd U o U' L ({ frames := 0, cells := 0, slots := 0, locals := 0 } : Room).cells ({ frames := 0, cells := 0, slots := 0, locals := 0 } : Room).slots) := by
  refine MetFree.of_bodySF (plainFor_of_name pn_11) hisR ?_
  intro p e s m args below meth c s₁ Bd hml0 hP hK
  obtain ⟨rfl, hZ, hh⟩ := hP
  have hx := Bd.exec
  have hby := Bd.bytes
  have hml : c.maxLocals = 2 := hml0
  have hown : s.vm.findClass "java/lang/Integer" = some m.cls := findClass_of_methodNamed Bd.named
  have hnm := (name_of_methodNamed Bd.named Bd.method).1
  have X0 : Stand p l e ({ frames := 0, cells := 0, slots := 0, locals := 0 } : Room) s m #[(.int (32 : Int32))] below meth c s₁ [] 0 0 := Stand.of_body Bd
  have e0 : s₁.heap = h0 := by rw [← hh, Bd.state]; rfl
  have N0 := Fr.nil n0
  suffices hgoal : OWp p e below s ({ frames := 0, cells := 0, slots := 0, locals := 0 } : Room).cells ({ frames := 0, cells := 0, slots := 0, locals := 0 } : Room).slots (Q11  h0 n0) (s₁.setTop (mkF m 0 #[.val (.int (32 : Int32)), .unset] [])) by
    rw [← ef_11] at hgoal; exact hgoal
  refine own_st (F' := s₁.setTop (mkF m 1 #[.val (.int (32 : Int32)), .unset] [(.int (32 : Int32))])) (fun t_ kk => XS.iloadN X0.here hx rfl (hb hby d11_0) rfl kk) ?_
  refine own_st (F' := s₁.setTop (mkF m 2 #[.val (.int (32 : Int32)), .unset] [(.int (-1 : Int32)), (.int (32 : Int32))])) (fun t_ kk => XS.iconst X0.here hx rfl (hb hby d11_1) kk) ?_
  refine own_st (F' := s₁.setTop (mkF m 3 #[.val (.int (32 : Int32)), .unset] [(.int ((32 : Int32) ^^^ (-1 : Int32)))])) (fun t_ kk => XS.ixor X0.here hx rfl (hb hby d11_2) rfl kk) ?_
  rw [show ((32 : Int32) ^^^ (-1 : Int32)) = (-33 : Int32) from by decide]
  show OWp p e below s _ _ _ (s₁.setTop (mkF m 3 #[.val (.int (32 : Int32)), .unset] [(.int (-33 : Int32))]))
  refine own_st (F' := s₁.setTop (mkF m 4 #[.val (.int (32 : Int32)), .unset] [(.int (32 : Int32)), (.int (-33 : Int32))])) (fun t_ kk => XS.iloadN X0.here hx rfl (hb hby d11_3) rfl kk) ?_
  refine own_st (F' := s₁.setTop (mkF m 5 #[.val (.int (32 : Int32)), .unset] [(.int (1 : Int32)), (.int (32 : Int32)), (.int (-33 : Int32))])) (fun t_ kk => XS.iconst X0.here hx rfl (hb hby d11_4) kk) ?_
  refine own_st (F' := s₁.setTop (mkF m 6 #[.val (.int (32 : Int32)), .unset] [(.int ((32 : Int32) - (1 : Int32))), (.int (-33 : Int32))])) (fun t_ kk => XS.isub X0.here hx rfl (hb hby d11_5) rfl kk) ?_
  rw [show ((32 : Int32) - (1 : Int32)) = (31 : Int32) from by decide]
  show OWp p e below s _ _ _ (s₁.setTop (mkF m 6 #[.val (.int (32 : Int32)), .unset] [(.int (31 : Int32)), (.int (-33 : Int32))]))
  refine own_st (F' := s₁.setTop (mkF m 7 #[.val (.int (32 : Int32)), .unset] [(.int ((-33 : Int32) &&& (31 : Int32)))])) (fun t_ kk => XS.iand X0.here hx rfl (hb hby d11_6) rfl kk) ?_
  rw [show ((-33 : Int32) &&& (31 : Int32)) = (31 : Int32) from by decide]
  show OWp p e below s _ _ _ (s₁.setTop (mkF m 7 #[.val (.int (32 : Int32)), .unset] [(.int (31 : Int32))]))
  refine own_st (F' := s₁.setTop (mkF m 8 #[.val (.int (31 : Int32)), .unset] [])) (fun t_ kk => XS.istoreN X0.here hx rfl (hb hby d11_7) rfl (l' := #[.val (.int (31 : Int32)), .unset]) rfl kk) ?_
  refine own_st (F' := s₁.setTop (mkF m 9 #[.val (.int (31 : Int32)), .unset] [(.int (31 : Int32))])) (fun t_ kk => XS.iloadN X0.here hx rfl (hb hby d11_8) rfl kk) ?_
  refine own_st (F' := s₁.setTop (mkF m 17 #[.val (.int (31 : Int32)), .unset] [])) (fun t_ kk => XS.ifYes X0.here hx rfl (pc0 := 9) (pc' := 17) rfl (hb hby d11_9) rfl ((if0 _ _).trans (tlt (by decide : (0 : Int32) < (31 : Int32))).2.2.1) (by decide) (by decide) kk) ?_
  refine own_st (F' := s₁.setTop (mkF m 18 #[.val (.int (31 : Int32)), .unset] [(.int (1 : Int32))])) (fun t_ kk => XS.iconst X0.here hx rfl (hb hby d11_17) kk) ?_
  refine own_st (F' := s₁.setTop (mkF m 19 #[.val (.int (31 : Int32)), .val (.int (1 : Int32))] [])) (fun t_ kk => XS.istoreN X0.here hx rfl (hb hby d11_18) rfl (l' := #[.val (.int (31 : Int32)), .val (.int (1 : Int32))]) rfl kk) ?_
  refine own_st (F' := s₁.setTop (mkF m 20 #[.val (.int (31 : Int32)), .val (.int (1 : Int32))] [(.int (31 : Int32))])) (fun t_ kk => XS.iloadN X0.here hx rfl (hb hby d11_19) rfl kk) ?_
  refine own_st (F' := s₁.setTop (mkF m 23 #[.val (.int (31 : Int32)), .val (.int (1 : Int32))] [(.int (65536 : Int32)), (.int (31 : Int32))])) (X0.ldcwInt hx hown (mvT hZ (hw _ (List.mem_of_getElem? (i := 63) rfl))) (g := (mkF m 20 #[.val (.int (31 : Int32)), .val (.int (1 : Int32))] [(.int (31 : Int32))])) rfl (hb hby d11_20)) ?_
  refine own_st (F' := s₁.setTop (mkF m 34 #[.val (.int (31 : Int32)), .val (.int (1 : Int32))] [])) (fun t_ kk => XS.icmpYes X0.here hx rfl (pc0 := 23) (pc' := 34) rfl (hb hby d11_23) rfl (flt (by decide : ¬ ((65536 : Int32) < (31 : Int32)))).2.2.2 (by decide) (by decide) kk) ?_
  refine own_st (F' := s₁.setTop (mkF m 35 #[.val (.int (31 : Int32)), .val (.int (1 : Int32))] [(.int (31 : Int32))])) (fun t_ kk => XS.iloadN X0.here hx rfl (hb hby d11_34) rfl kk) ?_
  refine own_st (F' := s₁.setTop (mkF m 38 #[.val (.int (31 : Int32)), .val (.int (1 : Int32))] [(.int (256 : Int32)), (.int (31 : Int32))])) (fun t_ kk => XS.sipush X0.here hx rfl (hb hby d11_35) kk) ?_
  refine own_st (F' := s₁.setTop (mkF m 49 #[.val (.int (31 : Int32)), .val (.int (1 : Int32))] [])) (fun t_ kk => XS.icmpYes X0.here hx rfl (pc0 := 38) (pc' := 49) rfl (hb hby d11_38) rfl (flt (by decide : ¬ ((256 : Int32) < (31 : Int32)))).2.2.2 (by decide) (by decide) kk) ?_
  refine own_st (F' := s₁.setTop (mkF m 50 #[.val (.int (31 : Int32)), .val (.int (1 : Int32))] [(.int (31 : Int32))])) (fun t_ kk => XS.iloadN X0.here hx rfl (hb hby d11_49) rfl kk) ?_
  refine own_st (F' := s₁.setTop (mkF m 52 #[.val (.int (31 : Int32)), .val (.int (1 : Int32))] [(.int (16 : Int32)), (.int (31 : Int32))])) (fun t_ kk => XS.bipush X0.here hx rfl (hb hby d11_50) kk) ?_
  refine own_st (F' := s₁.setTop (mkF m 55 #[.val (.int (31 : Int32)), .val (.int (1 : Int32))] [])) (fun t_ kk => XS.icmpNo X0.here hx rfl (hb hby d11_52) rfl (tlt (by decide : (16 : Int32) < (31 : Int32))).2.2.2 kk) ?_
  refine own_st (F' := s₁.setTop (mkF m 58 #[.val (.int (31 : Int32)), .val (.int ((1 : Int32) + (4 : Int32)))] [])) (fun t_ kk => XS.iinc X0.here hx rfl (hb hby d11_55) rfl (l' := #[.val (.int (31 : Int32)), .val (.int ((1 : Int32) + (4 : Int32)))]) rfl kk) ?_
  rw [show ((1 : Int32) + (4 : Int32)) = (5 : Int32) from by decide]
  show OWp p e below s _ _ _ (s₁.setTop (mkF m 58 #[.val (.int (31 : Int32)), .val (.int (5 : Int32))] []))
  refine own_st (F' := s₁.setTop (mkF m 59 #[.val (.int (31 : Int32)), .val (.int (5 : Int32))] [(.int (31 : Int32))])) (fun t_ kk => XS.iloadN X0.here hx rfl (hb hby d11_58) rfl kk) ?_
  refine own_st (F' := s₁.setTop (mkF m 60 #[.val (.int (31 : Int32)), .val (.int (5 : Int32))] [(.int (4 : Int32)), (.int (31 : Int32))])) (fun t_ kk => XS.iconst X0.here hx rfl (hb hby d11_59) kk) ?_
  refine own_st (F' := s₁.setTop (mkF m 61 #[.val (.int (31 : Int32)), .val (.int (5 : Int32))] [(.int (((31 : Int32).toUInt32 >>> ((4 : Int32) &&& 31).toUInt32).toInt32))])) (fun t_ kk => XS.iushr X0.here hx rfl (hb hby d11_60) rfl kk) ?_
  rw [show (((31 : Int32).toUInt32 >>> ((4 : Int32) &&& 31).toUInt32).toInt32) = (1 : Int32) from by decide]
  show OWp p e below s _ _ _ (s₁.setTop (mkF m 61 #[.val (.int (31 : Int32)), .val (.int (5 : Int32))] [(.int (1 : Int32))]))
  refine own_st (F' := s₁.setTop (mkF m 62 #[.val (.int (1 : Int32)), .val (.int (5 : Int32))] [])) (fun t_ kk => XS.istoreN X0.here hx rfl (hb hby d11_61) rfl (l' := #[.val (.int (1 : Int32)), .val (.int (5 : Int32))]) rfl kk) ?_
  refine own_st (F' := s₁.setTop (mkF m 63 #[.val (.int (1 : Int32)), .val (.int (5 : Int32))] [(.int (1 : Int32))])) (fun t_ kk => XS.iloadN X0.here hx rfl (hb hby d11_62) rfl kk) ?_
  refine own_st (F' := s₁.setTop (mkF m 64 #[.val (.int (1 : Int32)), .val (.int (5 : Int32))] [(.int (4 : Int32)), (.int (1 : Int32))])) (fun t_ kk => XS.iconst X0.here hx rfl (hb hby d11_63) kk) ?_
  refine own_st (F' := s₁.setTop (mkF m 74 #[.val (.int (1 : Int32)), .val (.int (5 : Int32))] [])) (fun t_ kk => XS.icmpYes X0.here hx rfl (pc0 := 64) (pc' := 74) rfl (hb hby d11_64) rfl (flt (by decide : ¬ ((4 : Int32) < (1 : Int32)))).2.2.2 (by decide) (by decide) kk) ?_
  refine own_st (F' := s₁.setTop (mkF m 75 #[.val (.int (1 : Int32)), .val (.int (5 : Int32))] [(.int (5 : Int32))])) (fun t_ kk => XS.iloadN X0.here hx rfl (hb hby d11_74) rfl kk) ?_
  refine own_st (F' := s₁.setTop (mkF m 76 #[.val (.int (1 : Int32)), .val (.int (5 : Int32))] [(.int (1 : Int32)), (.int (5 : Int32))])) (fun t_ kk => XS.iloadN X0.here hx rfl (hb hby d11_75) rfl kk) ?_
  refine own_st (F' := s₁.setTop (mkF m 77 #[.val (.int (1 : Int32)), .val (.int (5 : Int32))] [(.int (1 : Int32)), (.int (1 : Int32)), (.int (5 : Int32))])) (fun t_ kk => XS.iconst X0.here hx rfl (hb hby d11_76) kk) ?_
  refine own_st (F' := s₁.setTop (mkF m 78 #[.val (.int (1 : Int32)), .val (.int (5 : Int32))] [(.int (((1 : Int32).toUInt32 >>> ((1 : Int32) &&& 31).toUInt32).toInt32)), (.int (5 : Int32))])) (fun t_ kk => XS.iushr X0.here hx rfl (hb hby d11_77) rfl kk) ?_
  rw [show (((1 : Int32).toUInt32 >>> ((1 : Int32) &&& 31).toUInt32).toInt32) = (0 : Int32) from by decide]
  show OWp p e below s _ _ _ (s₁.setTop (mkF m 78 #[.val (.int (1 : Int32)), .val (.int (5 : Int32))] [(.int (0 : Int32)), (.int (5 : Int32))]))
  refine own_st (F' := s₁.setTop (mkF m 79 #[.val (.int (1 : Int32)), .val (.int (5 : Int32))] [(.int ((5 : Int32) + (0 : Int32)))])) (fun t_ kk => XS.iadd X0.here hx rfl (hb hby d11_78) rfl kk) ?_
  rw [show ((5 : Int32) + (0 : Int32)) = (5 : Int32) from by decide]
  show OWp p e below s _ _ _ (s₁.setTop (mkF m 79 #[.val (.int (1 : Int32)), .val (.int (5 : Int32))] [(.int (5 : Int32))]))
  refine own_fin X0 (some (.int (5 : Int32))) (fun h => by rw [Bd.returns] at h; cases h) Bd.notSynchronized (by decide) (by decide) (fun fs hr => X0.ireturnOut hx (t := .int) Bd.returns rfl (Or.inl rfl) (hb hby d11_79) hr) ?_
  rw [e0]
  exact ⟨rfl, N0, rfl⟩
theorem d6_0 : decode prog_8_method_8_code 0 = .ok (.iload_n 0, 1) := by decide +kernel
theorem d6_1 : decode prog_8_method_8_code 1 = .ok (.iload_n 1, 1) := by decide +kernel
theorem d6_2 : decode prog_8_method_8_code 2 = .ok (.iconst 1, 1) := by decide +kernel
theorem d6_3 : decode prog_8_method_8_code 3 = .ok (.isub, 1) := by decide +kernel
theorem d6_4 : decode prog_8_method_8_code 4 = .ok (.ishr, 1) := by decide +kernel
theorem d6_5 : decode prog_8_method_8_code 5 = .ok (.iconst 1, 1) := by decide +kernel
theorem d6_6 : decode prog_8_method_8_code 6 = .ok (.iand, 1) := by decide +kernel
theorem d6_7 : decode prog_8_method_8_code 7 = .ok (.ifCond .ne 7, 3) := by decide +kernel
theorem d6_10 : decode prog_8_method_8_code 10 = .ok (.iconst 1, 1) := by decide +kernel
theorem d6_11 : decode prog_8_method_8_code 11 = .ok (.goto 4, 3) := by decide +kernel
theorem d6_14 : decode prog_8_method_8_code 14 = .ok (.iconst 0, 1) := by decide +kernel
theorem d6_15 : decode prog_8_method_8_code 15 = .ok (.ireturn, 1) := by decide +kernel
def Q6 (p1 p2 : Int32) (h0 : Heap) (n0 : Nat) (v : Option Value) (h : Heap) (L : List Loc) : Prop := v = some (.int (oBit p1 p2)) ∧ Fr n0 L ∧ h = h0
theorem ef_6 (m : MethodId) (x0 : Int32) (x1 : Int32) : entryFrame m #[(.int x0), (.int x1)] 2 = mkF m 0 #[.val (.int x0), .val (.int x1)] [] := by first | (simp [entryFrame, mkF, argsToLocals, Value.category]; done) | rfl
theorem pn_6 : plainName "com/example/slackline/slackline/planning/FileOrderSets" = true := by first | (simp [plainName, overriddenIn]; done) | decide +kernel
set_option maxRecDepth 65536 in
set_option maxHeartbeats 40000000 in
theorem rm6 (l : Launch) (Z : State) (a0 : Array Value) (hw : ∀ d ∈ tables_1, d.before a0 Z = true) (ws : List Jvm.Cond) (p1 p2 : Int32) (h0 : Heap) (n0 : Nat) (Z0 : n0 ≤ h0.size)  :
    MetFree l (⟨"com/example/slackline/slackline/planning/FileOrderSets", "inLow", "(II)Z"⟩ : MethodName) (head1 (Jvm.Cond.code (⟨"com/example/slackline/slackline/planning/FileOrderSets", "inLow", "(II)Z"⟩ : MethodName) prog_8_method_8_code 2 (some .boolean) :: ws) ({ frames := 0, cells := 0, slots := 0, locals := 0 } : Room)) (fun a U => a = #[(.int p1), (.int p2)] ∧ Z.Warmed39 U.vm ∧ U.heap = h0) (fun _ _ _ _ _ => True) (fun _ U o U' => ∃ v L, o = .returned v ∧ Q6 p1 p2 h0 n0 v U'.heap L ∧ FrameEnd U o U' L ({ frames := 0, cells := 0, slots := 0, locals := 0 } : Room).cells ({ frames := 0, cells := 0, slots := 0, locals := 0 } : Room).slots) := by
  refine MetFree.of_bodySF (plainFor_of_name pn_6) hisR ?_
  intro p e s m args below meth c s₁ Bd hml0 hP hK
  obtain ⟨rfl, hZ, hh⟩ := hP
  have hx := Bd.exec
  have hby := Bd.bytes
  have hml : c.maxLocals = 2 := hml0
  have hown : s.vm.findClass "com/example/slackline/slackline/planning/FileOrderSets" = some m.cls := findClass_of_methodNamed Bd.named
  have hnm := (name_of_methodNamed Bd.named Bd.method).1
  have X0 : Stand p l e ({ frames := 0, cells := 0, slots := 0, locals := 0 } : Room) s m #[(.int p1), (.int p2)] below meth c s₁ [] 0 0 := Stand.of_body Bd
  have e0 : s₁.heap = h0 := by rw [← hh, Bd.state]; rfl
  have N0 := Fr.nil n0
  suffices hgoal : OWp p e below s ({ frames := 0, cells := 0, slots := 0, locals := 0 } : Room).cells ({ frames := 0, cells := 0, slots := 0, locals := 0 } : Room).slots (Q6 p1 p2 h0 n0) (s₁.setTop (mkF m 0 #[.val (.int p1), .val (.int p2)] [])) by
    rw [← ef_6] at hgoal; exact hgoal
  refine own_st (F' := s₁.setTop (mkF m 1 #[.val (.int p1), .val (.int p2)] [(.int p1)])) (fun t_ kk => XS.iloadN X0.here hx rfl (hb hby d6_0) rfl kk) ?_
  refine own_st (F' := s₁.setTop (mkF m 2 #[.val (.int p1), .val (.int p2)] [(.int p2), (.int p1)])) (fun t_ kk => XS.iloadN X0.here hx rfl (hb hby d6_1) rfl kk) ?_
  refine own_st (F' := s₁.setTop (mkF m 3 #[.val (.int p1), .val (.int p2)] [(.int (1 : Int32)), (.int p2), (.int p1)])) (fun t_ kk => XS.iconst X0.here hx rfl (hb hby d6_2) kk) ?_
  refine own_st (F' := s₁.setTop (mkF m 4 #[.val (.int p1), .val (.int p2)] [(.int (p2 - (1 : Int32))), (.int p1)])) (fun t_ kk => XS.isub X0.here hx rfl (hb hby d6_3) rfl kk) ?_
  refine own_st (F' := s₁.setTop (mkF m 5 #[.val (.int p1), .val (.int p2)] [(.int (p1 >>> ((p2 - (1 : Int32)) &&& 31)))])) (fun t_ kk => XS.ishr X0.here hx rfl (hb hby d6_4) rfl kk) ?_
  refine own_st (F' := s₁.setTop (mkF m 6 #[.val (.int p1), .val (.int p2)] [(.int (1 : Int32)), (.int (p1 >>> ((p2 - (1 : Int32)) &&& 31)))])) (fun t_ kk => XS.iconst X0.here hx rfl (hb hby d6_5) kk) ?_
  refine own_st (F' := s₁.setTop (mkF m 7 #[.val (.int p1), .val (.int p2)] [(.int ((p1 >>> ((p2 - (1 : Int32)) &&& 31)) &&& (1 : Int32)))])) (fun t_ kk => XS.iand X0.here hx rfl (hb hby d6_6) rfl kk) ?_
  by_cases hc1 : ((p1 >>> ((p2 - (1 : Int32)) &&& 31)) &&& (1 : Int32)) = (0 : Int32)
  · -- pc 7: ((p1 >>> ((p2 - (1 : Int32)) &&& 31)) &&& (1 : Int32)) = (0 : Int32)
    refine own_st (F' := s₁.setTop (mkF m 10 #[.val (.int p1), .val (.int p2)] [])) (fun t_ kk => XS.ifNo X0.here hx rfl (hb hby d6_7) rfl ((if0 _ _).trans (teq hc1).2) kk) ?_
    refine own_st (F' := s₁.setTop (mkF m 11 #[.val (.int p1), .val (.int p2)] [(.int (1 : Int32))])) (fun t_ kk => XS.iconst X0.here hx rfl (hb hby d6_10) kk) ?_
    refine own_st (F' := s₁.setTop (mkF m 15 #[.val (.int p1), .val (.int p2)] [(.int (1 : Int32))])) (fun t_ kk => XS.goto X0.here hx rfl (pc0 := 11) (pc' := 15) rfl (hb hby d6_11) (by decide) (by decide) kk) ?_
    refine own_fin X0 (some (.int (1 : Int32))) (fun h => by rw [Bd.returns] at h; cases h) Bd.notSynchronized (by decide) (by decide) (fun fs hr => retN X0 hx (t := .boolean) Bd.returns (by simp) (hb hby d6_15) hr) ?_
    rw [e0]
    exact ⟨by rw [oBit, if_pos hc1], N0, rfl⟩
  · -- pc 7: not ((p1 >>> ((p2 - (1 : Int32)) &&& 31)) &&& (1 : Int32)) = (0 : Int32)
    refine own_st (F' := s₁.setTop (mkF m 14 #[.val (.int p1), .val (.int p2)] [])) (fun t_ kk => XS.ifYes X0.here hx rfl (pc0 := 7) (pc' := 14) rfl (hb hby d6_7) rfl ((if0 _ _).trans (feq hc1).2) (by decide) (by decide) kk) ?_
    refine own_st (F' := s₁.setTop (mkF m 15 #[.val (.int p1), .val (.int p2)] [(.int (0 : Int32))])) (fun t_ kk => XS.iconst X0.here hx rfl (hb hby d6_14) kk) ?_
    refine own_fin X0 (some (.int (0 : Int32))) (fun h => by rw [Bd.returns] at h; cases h) Bd.notSynchronized (by decide) (by decide) (fun fs hr => retN X0 hx (t := .boolean) Bd.returns (by simp) (hb hby d6_15) hr) ?_
    rw [e0]
    exact ⟨by rw [oBit, if_neg hc1], N0, rfl⟩
theorem d7_0 : decode prog_8_method_9_code 0 = .ok (.iload_n 1, 1) := by decide +kernel
theorem d7_1 : decode prog_8_method_9_code 1 = .ok (.ifCond .ne 7, 3) := by decide +kernel
theorem d7_4 : decode prog_8_method_9_code 4 = .ok (.iconst 0, 1) := by decide +kernel
theorem d7_5 : decode prog_8_method_9_code 5 = .ok (.goto 9, 3) := by decide +kernel
theorem d7_8 : decode prog_8_method_9_code 8 = .ok (.aload_n 0, 1) := by decide +kernel
theorem d7_9 : decode prog_8_method_9_code 9 = .ok (.getfield 7, 3) := by decide +kernel
theorem d7_12 : decode prog_8_method_9_code 12 = .ok (.iload_n 1, 1) := by decide +kernel
theorem d7_13 : decode prog_8_method_9_code 13 = .ok (.iaload, 1) := by decide +kernel
theorem d7_14 : decode prog_8_method_9_code 14 = .ok (.ireturn, 1) := by decide +kernel
def Q7 (S : OSt) (x : Nat) (h0 : Heap) (n0 : Nat) (v : Option Value) (h : Heap) (L : List Loc) : Prop := v = some (.int (Int32.ofNat (oLow S x))) ∧ Fr n0 L ∧ h = h0
theorem ef_7 (m : MethodId) (x0 : Addr) (x1 : Int32) : entryFrame m #[(.ref x0), (.int x1)] 2 = mkF m 0 #[.val (.ref x0), .val (.int x1)] [] := by first | (simp [entryFrame, mkF, argsToLocals, Value.category]; done) | rfl
theorem pn_7 : plainName "com/example/slackline/slackline/planning/FileOrderSets" = true := by first | (simp [plainName, overriddenIn]; done) | decide +kernel
set_option maxRecDepth 65536 in
set_option maxHeartbeats 40000000 in
theorem rm7 (l : Launch) (Z : State) (a0 : Array Value) (hw : ∀ d ∈ tables_1, d.before a0 Z = true) (ws : List Jvm.Cond) (a1 bl bh bt bs : Addr) (d : Nat) (S : OSt) (x : Nat) (h0 : Heap) (n0 : Nat) (Z0 : n0 ≤ h0.size) (I : OFos Z h0 a1 bl bh bt bs d S) (hx16 : x < 16) :
    MetFree l (⟨"com/example/slackline/slackline/planning/FileOrderSets", "low", "(I)I"⟩ : MethodName) (head1 (Jvm.Cond.code (⟨"com/example/slackline/slackline/planning/FileOrderSets", "low", "(I)I"⟩ : MethodName) prog_8_method_9_code 2 (some .int) :: ws) ({ frames := 0, cells := 0, slots := 0, locals := 0 } : Room)) (fun a U => a = #[(.ref a1), (.int (Int32.ofNat x))] ∧ Z.Warmed39 U.vm ∧ U.heap = h0) (fun _ _ _ _ _ => True) (fun _ U o U' => ∃ v L, o = .returned v ∧ Q7 S x h0 n0 v U'.heap L ∧ FrameEnd U o U' L ({ frames := 0, cells := 0, slots := 0, locals := 0 } : Room).cells ({ frames := 0, cells := 0, slots := 0, locals := 0 } : Room).slots) := by
  refine MetFree.of_bodySF (plainFor_of_name pn_7) hisR ?_
  intro p e s m args below meth c s₁ Bd hml0 hP hK
  obtain ⟨rfl, hZ, hh⟩ := hP
  have hx := Bd.exec
  have hby := Bd.bytes
  have hml : c.maxLocals = 2 := hml0
  have hown : s.vm.findClass "com/example/slackline/slackline/planning/FileOrderSets" = some m.cls := findClass_of_methodNamed Bd.named
  have hnm := (name_of_methodNamed Bd.named Bd.method).1
  have X0 : Stand p l e ({ frames := 0, cells := 0, slots := 0, locals := 0 } : Room) s m #[(.ref a1), (.int (Int32.ofNat x))] below meth c s₁ [] 0 0 := Stand.of_body Bd
  have e0 : s₁.heap = h0 := by rw [← hh, Bd.state]; rfl
  have N0 := Fr.nil n0
  suffices hgoal : OWp p e below s ({ frames := 0, cells := 0, slots := 0, locals := 0 } : Room).cells ({ frames := 0, cells := 0, slots := 0, locals := 0 } : Room).slots (Q7 S x h0 n0) (s₁.setTop (mkF m 0 #[.val (.ref a1), .val (.int (Int32.ofNat x))] [])) by
    rw [← ef_7] at hgoal; exact hgoal
  have I_ := I
  obtain ⟨E_a, f_depth, f_lows, f_highs, f_table, f_stamps, f_count, f_stamp, V_l, V_h, V_t, V_s⟩ := I
  refine own_st (F' := s₁.setTop (mkF m 1 #[.val (.ref a1), .val (.int (Int32.ofNat x))] [(.int (Int32.ofNat x))])) (fun t_ kk => XS.iloadN X0.here hx rfl (hb hby d7_0) rfl kk) ?_
  by_cases hc1 : x = 0
  · -- pc 1: x = 0
    refine own_st (F' := s₁.setTop (mkF m 4 #[.val (.ref a1), .val (.int (Int32.ofNat x))] [])) (fun t_ kk => XS.ifNo X0.here hx rfl (hb hby d7_1) rfl ((if0 _ _).trans (teq ((own_z (Nat.lt_trans hx16 (by decide))).mpr hc1)).2) kk) ?_
    refine own_st (F' := s₁.setTop (mkF m 5 #[.val (.ref a1), .val (.int (Int32.ofNat x))] [(.int (0 : Int32))])) (fun t_ kk => XS.iconst X0.here hx rfl (hb hby d7_4) kk) ?_
    refine own_st (F' := s₁.setTop (mkF m 14 #[.val (.ref a1), .val (.int (Int32.ofNat x))] [(.int (0 : Int32))])) (fun t_ kk => XS.goto X0.here hx rfl (pc0 := 5) (pc' := 14) rfl (hb hby d7_5) (by decide) (by decide) kk) ?_
    refine own_fin X0 (some (.int (0 : Int32))) (fun h => by rw [Bd.returns] at h; cases h) Bd.notSynchronized (by decide) (by decide) (fun fs hr => X0.ireturnOut hx (t := .int) Bd.returns rfl (Or.inl rfl) (hb hby d7_14) hr) ?_
    rw [e0]
    exact ⟨by rw [oLow, if_pos hc1]; rfl, N0, rfl⟩
  · -- pc 1: not x = 0
    refine own_st (F' := s₁.setTop (mkF m 8 #[.val (.ref a1), .val (.int (Int32.ofNat x))] [])) (fun t_ kk => XS.ifYes X0.here hx rfl (pc0 := 1) (pc' := 8) rfl (hb hby d7_1) rfl ((if0 _ _).trans (feq (fun z => hc1 ((own_z (Nat.lt_trans hx16 (by decide))).mp z))).2) (by decide) (by decide) kk) ?_
    refine own_st (F' := s₁.setTop (mkF m 9 #[.val (.ref a1), .val (.int (Int32.ofNat x))] [(.ref a1)])) (fun t_ kk => XS.aloadN X0.here hx rfl (hb hby d7_8) rfl rfl kk) ?_
    obtain ⟨T2, X2, e2, st2⟩ := getF X0 hx hZ hown (host := "") (Or.inl (hw _ (List.mem_of_getElem? (i := 11) rfl))) Via.refl e0 f_lows (g := (mkF m 9 #[.val (.ref a1), .val (.int (Int32.ofNat x))] [(.ref a1)])) rfl rfl (hb hby d7_9)
    refine own_st (F' := T2.setTop (mkF m 12 #[.val (.ref a1), .val (.int (Int32.ofNat x))] [(.ref bl)])) st2 ?_
    refine own_st (F' := T2.setTop (mkF m 13 #[.val (.ref a1), .val (.int (Int32.ofNat x))] [(.int (Int32.ofNat x)), (.ref bl)])) (fun t_ kk => XS.iloadN X2.here hx rfl (hb hby d7_12) rfl kk) ?_
    refine own_st (F' := T2.setTop (mkF m 14 #[.val (.ref a1), .val (.int (Int32.ofNat x))] [(.int (Int32.ofNat ((oLo S) x)))])) (own_fld X2 hx hZ e2 V_l (i := x) hx16 (hb hby d7_13)) ?_
    refine own_fin X2 (some (.int (Int32.ofNat ((oLo S) x)))) (fun h => by rw [Bd.returns] at h; cases h) Bd.notSynchronized (by decide) (by decide) (fun fs hr => X2.ireturnOut hx (t := .int) Bd.returns rfl (Or.inl rfl) (hb hby d7_14) hr) ?_
    rw [e2]
    exact ⟨by rw [oLow, if_neg hc1], N0, rfl⟩
theorem d8_0 : decode prog_8_method_10_code 0 = .ok (.iload_n 1, 1) := by decide +kernel
theorem d8_1 : decode prog_8_method_10_code 1 = .ok (.ifCond .ne 7, 3) := by decide +kernel
theorem d8_4 : decode prog_8_method_10_code 4 = .ok (.iconst 0, 1) := by decide +kernel
theorem d8_5 : decode prog_8_method_10_code 5 = .ok (.goto 9, 3) := by decide +kernel
theorem d8_8 : decode prog_8_method_10_code 8 = .ok (.aload_n 0, 1) := by decide +kernel
theorem d8_9 : decode prog_8_method_10_code 9 = .ok (.getfield 13, 3) := by decide +kernel
theorem d8_12 : decode prog_8_method_10_code 12 = .ok (.iload_n 1, 1) := by decide +kernel
theorem d8_13 : decode prog_8_method_10_code 13 = .ok (.iaload, 1) := by decide +kernel
theorem d8_14 : decode prog_8_method_10_code 14 = .ok (.ireturn, 1) := by decide +kernel
def Q8 (S : OSt) (x : Nat) (h0 : Heap) (n0 : Nat) (v : Option Value) (h : Heap) (L : List Loc) : Prop := v = some (.int (Int32.ofNat (oHigh S x))) ∧ Fr n0 L ∧ h = h0
theorem ef_8 (m : MethodId) (x0 : Addr) (x1 : Int32) : entryFrame m #[(.ref x0), (.int x1)] 2 = mkF m 0 #[.val (.ref x0), .val (.int x1)] [] := by first | (simp [entryFrame, mkF, argsToLocals, Value.category]; done) | rfl
theorem pn_8 : plainName "com/example/slackline/slackline/planning/FileOrderSets" = true := by first | (simp [plainName, overriddenIn]; done) | decide +kernel
set_option maxRecDepth 65536 in
set_option maxHeartbeats 40000000 in
theorem rm8 (l : Launch) (Z : State) (a0 : Array Value) (hw : ∀ d ∈ tables_1, d.before a0 Z = true) (ws : List Jvm.Cond) (a1 bl bh bt bs : Addr) (d : Nat) (S : OSt) (x : Nat) (h0 : Heap) (n0 : Nat) (Z0 : n0 ≤ h0.size) (I : OFos Z h0 a1 bl bh bt bs d S) (hx16 : x < 16) :
    MetFree l (⟨"com/example/slackline/slackline/planning/FileOrderSets", "high", "(I)I"⟩ : MethodName) (head1 (Jvm.Cond.code (⟨"com/example/slackline/slackline/planning/FileOrderSets", "high", "(I)I"⟩ : MethodName) prog_8_method_10_code 2 (some .int) :: ws) ({ frames := 0, cells := 0, slots := 0, locals := 0 } : Room)) (fun a U => a = #[(.ref a1), (.int (Int32.ofNat x))] ∧ Z.Warmed39 U.vm ∧ U.heap = h0) (fun _ _ _ _ _ => True) (fun _ U o U' => ∃ v L, o = .returned v ∧ Q8 S x h0 n0 v U'.heap L ∧ FrameEnd U o U' L ({ frames := 0, cells := 0, slots := 0, locals := 0 } : Room).cells ({ frames := 0, cells := 0, slots := 0, locals := 0 } : Room).slots) := by
  refine MetFree.of_bodySF (plainFor_of_name pn_8) hisR ?_
  intro p e s m args below meth c s₁ Bd hml0 hP hK
  obtain ⟨rfl, hZ, hh⟩ := hP
  have hx := Bd.exec
  have hby := Bd.bytes
  have hml : c.maxLocals = 2 := hml0
  have hown : s.vm.findClass "com/example/slackline/slackline/planning/FileOrderSets" = some m.cls := findClass_of_methodNamed Bd.named
  have hnm := (name_of_methodNamed Bd.named Bd.method).1
  have X0 : Stand p l e ({ frames := 0, cells := 0, slots := 0, locals := 0 } : Room) s m #[(.ref a1), (.int (Int32.ofNat x))] below meth c s₁ [] 0 0 := Stand.of_body Bd
  have e0 : s₁.heap = h0 := by rw [← hh, Bd.state]; rfl
  have N0 := Fr.nil n0
  suffices hgoal : OWp p e below s ({ frames := 0, cells := 0, slots := 0, locals := 0 } : Room).cells ({ frames := 0, cells := 0, slots := 0, locals := 0 } : Room).slots (Q8 S x h0 n0) (s₁.setTop (mkF m 0 #[.val (.ref a1), .val (.int (Int32.ofNat x))] [])) by
    rw [← ef_8] at hgoal; exact hgoal
  have I_ := I
  obtain ⟨E_a, f_depth, f_lows, f_highs, f_table, f_stamps, f_count, f_stamp, V_l, V_h, V_t, V_s⟩ := I
  refine own_st (F' := s₁.setTop (mkF m 1 #[.val (.ref a1), .val (.int (Int32.ofNat x))] [(.int (Int32.ofNat x))])) (fun t_ kk => XS.iloadN X0.here hx rfl (hb hby d8_0) rfl kk) ?_
  by_cases hc1 : x = 0
  · -- pc 1: x = 0
    refine own_st (F' := s₁.setTop (mkF m 4 #[.val (.ref a1), .val (.int (Int32.ofNat x))] [])) (fun t_ kk => XS.ifNo X0.here hx rfl (hb hby d8_1) rfl ((if0 _ _).trans (teq ((own_z (Nat.lt_trans hx16 (by decide))).mpr hc1)).2) kk) ?_
    refine own_st (F' := s₁.setTop (mkF m 5 #[.val (.ref a1), .val (.int (Int32.ofNat x))] [(.int (0 : Int32))])) (fun t_ kk => XS.iconst X0.here hx rfl (hb hby d8_4) kk) ?_
    refine own_st (F' := s₁.setTop (mkF m 14 #[.val (.ref a1), .val (.int (Int32.ofNat x))] [(.int (0 : Int32))])) (fun t_ kk => XS.goto X0.here hx rfl (pc0 := 5) (pc' := 14) rfl (hb hby d8_5) (by decide) (by decide) kk) ?_
    refine own_fin X0 (some (.int (0 : Int32))) (fun h => by rw [Bd.returns] at h; cases h) Bd.notSynchronized (by decide) (by decide) (fun fs hr => X0.ireturnOut hx (t := .int) Bd.returns rfl (Or.inl rfl) (hb hby d8_14) hr) ?_
    rw [e0]
    exact ⟨by rw [oHigh, if_pos hc1]; rfl, N0, rfl⟩
  · -- pc 1: not x = 0
    refine own_st (F' := s₁.setTop (mkF m 8 #[.val (.ref a1), .val (.int (Int32.ofNat x))] [])) (fun t_ kk => XS.ifYes X0.here hx rfl (pc0 := 1) (pc' := 8) rfl (hb hby d8_1) rfl ((if0 _ _).trans (feq (fun z => hc1 ((own_z (Nat.lt_trans hx16 (by decide))).mp z))).2) (by decide) (by decide) kk) ?_
    refine own_st (F' := s₁.setTop (mkF m 9 #[.val (.ref a1), .val (.int (Int32.ofNat x))] [(.ref a1)])) (fun t_ kk => XS.aloadN X0.here hx rfl (hb hby d8_8) rfl rfl kk) ?_
    obtain ⟨T2, X2, e2, st2⟩ := getF X0 hx hZ hown (host := "") (Or.inl (hw _ (List.mem_of_getElem? (i := 13) rfl))) Via.refl e0 f_highs (g := (mkF m 9 #[.val (.ref a1), .val (.int (Int32.ofNat x))] [(.ref a1)])) rfl rfl (hb hby d8_9)
    refine own_st (F' := T2.setTop (mkF m 12 #[.val (.ref a1), .val (.int (Int32.ofNat x))] [(.ref bh)])) st2 ?_
    refine own_st (F' := T2.setTop (mkF m 13 #[.val (.ref a1), .val (.int (Int32.ofNat x))] [(.int (Int32.ofNat x)), (.ref bh)])) (fun t_ kk => XS.iloadN X2.here hx rfl (hb hby d8_12) rfl kk) ?_
    refine own_st (F' := T2.setTop (mkF m 14 #[.val (.ref a1), .val (.int (Int32.ofNat x))] [(.int (Int32.ofNat ((oHi S) x)))])) (own_fld X2 hx hZ e2 V_h (i := x) hx16 (hb hby d8_13)) ?_
    refine own_fin X2 (some (.int (Int32.ofNat ((oHi S) x)))) (fun h => by rw [Bd.returns] at h; cases h) Bd.notSynchronized (by decide) (by decide) (fun fs hr => X2.ireturnOut hx (t := .int) Bd.returns rfl (Or.inl rfl) (hb hby d8_14) hr) ?_
    rw [e2]
    exact ⟨by rw [oHigh, if_neg hc1], N0, rfl⟩
theorem d10_0 : decode prog_8_method_13_code 0 = .ok (.iload_n 1, 1) := by decide +kernel
theorem d10_1 : decode prog_8_method_13_code 1 = .ok (.i2l, 1) := by decide +kernel
theorem d10_2 : decode prog_8_method_13_code 2 = .ok (.bipush 32, 2) := by decide +kernel
theorem d10_4 : decode prog_8_method_13_code 4 = .ok (.lshl, 1) := by decide +kernel
theorem d10_5 : decode prog_8_method_13_code 5 = .ok (.iload_n 2, 1) := by decide +kernel
theorem d10_6 : decode prog_8_method_13_code 6 = .ok (.i2l, 1) := by decide +kernel
theorem d10_7 : decode prog_8_method_13_code 7 = .ok (.lor, 1) := by decide +kernel
theorem d10_8 : decode prog_8_method_13_code 8 = .ok (.lstore_n 3, 1) := by decide +kernel
theorem d10_9 : decode prog_8_method_13_code 9 = .ok (.lload_n 3, 1) := by decide +kernel
theorem d10_10 : decode prog_8_method_13_code 10 = .ok (.ldc2_w 71, 3) := by decide +kernel
theorem d10_13 : decode prog_8_method_13_code 13 = .ok (.lmul, 1) := by decide +kernel
theorem d10_14 : decode prog_8_method_13_code 14 = .ok (.bipush 64, 2) := by decide +kernel
theorem d10_16 : decode prog_8_method_13_code 16 = .ok (.aload_n 0, 1) := by decide +kernel
theorem d10_17 : decode prog_8_method_13_code 17 = .ok (.getfield 16, 3) := by decide +kernel
theorem d10_20 : decode prog_8_method_13_code 20 = .ok (.arraylength, 1) := by decide +kernel
theorem d10_21 : decode prog_8_method_13_code 21 = .ok (.invokestatic 75, 3) := by decide +kernel
theorem d10_24 : decode prog_8_method_13_code 24 = .ok (.isub, 1) := by decide +kernel
theorem d10_25 : decode prog_8_method_13_code 25 = .ok (.lushr, 1) := by decide +kernel
theorem d10_26 : decode prog_8_method_13_code 26 = .ok (.l2i, 1) := by decide +kernel
theorem d10_27 : decode prog_8_method_13_code 27 = .ok (.ireturn, 1) := by decide +kernel
def Q10 (lo hi : Nat) (h0 : Heap) (n0 : Nat) (v : Option Value) (h : Heap) (L : List Loc) : Prop := v = some (.int (Int32.ofNat (oSlot lo hi))) ∧ Fr n0 L ∧ h = h0
theorem ef_10 (m : MethodId) (x0 : Addr) (x1 x2 : Int32) : entryFrame m #[(.ref x0), (.int x1), (.int x2)] 5 = mkF m 0 #[.val (.ref x0), .val (.int x1), .val (.int x2), .unset, .unset] [] := by first | (simp [entryFrame, mkF, argsToLocals, Value.category]; done) | rfl
theorem pn_10 : plainName "com/example/slackline/slackline/planning/FileOrderSets" = true := by first | (simp [plainName, overriddenIn]; done) | decide +kernel
set_option maxRecDepth 65536 in
set_option maxHeartbeats 40000000 in
theorem rm10 (l : Launch) (Z : State) (a0 : Array Value) (hw : ∀ d ∈ tables_1, d.before a0 Z = true) (ws : List Jvm.Cond) (a1 bl bh bt bs : Addr) (d : Nat) (S : OSt) (lo hi : Nat) (h0 : Heap) (n0 : Nat) (Z0 : n0 ≤ h0.size) (I : OFos Z h0 a1 bl bh bt bs d S) (hlo : lo < 16) (hhi : hi < 16) :
    MetFree l (⟨"com/example/slackline/slackline/planning/FileOrderSets", "slot", "(II)I"⟩ : MethodName) (head1 (Jvm.Cond.code (⟨"com/example/slackline/slackline/planning/FileOrderSets", "slot", "(II)I"⟩ : MethodName) prog_8_method_13_code 5 (some .int) :: ws) ({ frames := 1, cells := 0, slots := 0, locals := 16 } : Room)) (fun a U => a = #[(.ref a1), (.int (Int32.ofNat lo)), (.int (Int32.ofNat hi))] ∧ Z.Warmed39 U.vm ∧ U.heap = h0) (fun _ _ _ _ _ => True) (fun _ U o U' => ∃ v L, o = .returned v ∧ Q10 lo hi h0 n0 v U'.heap L ∧ FrameEnd U o U' L ({ frames := 1, cells := 0, slots := 0, locals := 16 } : Room).cells ({ frames := 1, cells := 0, slots := 0, locals := 16 } : Room).slots) := by
  refine MetFree.of_bodySF (plainFor_of_name pn_10) hisR ?_
  intro p e s m args below meth c s₁ Bd hml0 hP hK
  obtain ⟨rfl, hZ, hh⟩ := hP
  have hx := Bd.exec
  have hby := Bd.bytes
  have hml : c.maxLocals = 5 := hml0
  have hown : s.vm.findClass "com/example/slackline/slackline/planning/FileOrderSets" = some m.cls := findClass_of_methodNamed Bd.named
  have hnm := (name_of_methodNamed Bd.named Bd.method).1
  have X0 : Stand p l e ({ frames := 1, cells := 0, slots := 0, locals := 16 } : Room) s m #[(.ref a1), (.int (Int32.ofNat lo)), (.int (Int32.ofNat hi))] below meth c s₁ [] 0 0 := Stand.of_body Bd
  have e0 : s₁.heap = h0 := by rw [← hh, Bd.state]; rfl
  have N0 := Fr.nil n0
  suffices hgoal : OWp p e below s ({ frames := 1, cells := 0, slots := 0, locals := 16 } : Room).cells ({ frames := 1, cells := 0, slots := 0, locals := 16 } : Room).slots (Q10 lo hi h0 n0) (s₁.setTop (mkF m 0 #[.val (.ref a1), .val (.int (Int32.ofNat lo)), .val (.int (Int32.ofNat hi)), .unset, .unset] [])) by
    rw [← ef_10] at hgoal; exact hgoal
  have I_ := I
  obtain ⟨E_a, f_depth, f_lows, f_highs, f_table, f_stamps, f_count, f_stamp, V_l, V_h, V_t, V_s⟩ := I
  refine own_st (F' := s₁.setTop (mkF m 1 #[.val (.ref a1), .val (.int (Int32.ofNat lo)), .val (.int (Int32.ofNat hi)), .unset, .unset] [(.int (Int32.ofNat lo))])) (fun t_ kk => XS.iloadN X0.here hx rfl (hb hby d10_0) rfl kk) ?_
  refine own_st (F' := s₁.setTop (mkF m 2 #[.val (.ref a1), .val (.int (Int32.ofNat lo)), .val (.int (Int32.ofNat hi)), .unset, .unset] [(.long ((Int32.ofNat lo).toInt64))])) (fun t_ kk => XS.i2l X0.here hx rfl (hb hby d10_1) rfl kk) ?_
  refine own_st (F' := s₁.setTop (mkF m 4 #[.val (.ref a1), .val (.int (Int32.ofNat lo)), .val (.int (Int32.ofNat hi)), .unset, .unset] [(.int (32 : Int32)), (.long ((Int32.ofNat lo).toInt64))])) (fun t_ kk => XS.bipush X0.here hx rfl (hb hby d10_2) kk) ?_
  refine own_st (F' := s₁.setTop (mkF m 5 #[.val (.ref a1), .val (.int (Int32.ofNat lo)), .val (.int (Int32.ofNat hi)), .unset, .unset] [(.long (((Int32.ofNat lo).toInt64) <<< ((32 : Int32) &&& 0x3f).toInt64))])) (fun t_ kk => XS.lshl X0.here hx rfl (hb hby d10_4) rfl kk) ?_
  refine own_st (F' := s₁.setTop (mkF m 6 #[.val (.ref a1), .val (.int (Int32.ofNat lo)), .val (.int (Int32.ofNat hi)), .unset, .unset] [(.int (Int32.ofNat hi)), (.long (((Int32.ofNat lo).toInt64) <<< ((32 : Int32) &&& 0x3f).toInt64))])) (fun t_ kk => XS.iloadN X0.here hx rfl (hb hby d10_5) rfl kk) ?_
  refine own_st (F' := s₁.setTop (mkF m 7 #[.val (.ref a1), .val (.int (Int32.ofNat lo)), .val (.int (Int32.ofNat hi)), .unset, .unset] [(.long ((Int32.ofNat hi).toInt64)), (.long (((Int32.ofNat lo).toInt64) <<< ((32 : Int32) &&& 0x3f).toInt64))])) (fun t_ kk => XS.i2l X0.here hx rfl (hb hby d10_6) rfl kk) ?_
  refine own_st (F' := s₁.setTop (mkF m 8 #[.val (.ref a1), .val (.int (Int32.ofNat lo)), .val (.int (Int32.ofNat hi)), .unset, .unset] [(.long ((((Int32.ofNat lo).toInt64) <<< ((32 : Int32) &&& 0x3f).toInt64) ||| ((Int32.ofNat hi).toInt64)))])) (fun t_ kk => XS.lor X0.here hx rfl (hb hby d10_7) rfl kk) ?_
  refine own_st (F' := s₁.setTop (mkF m 9 #[.val (.ref a1), .val (.int (Int32.ofNat lo)), .val (.int (Int32.ofNat hi)), .val (.long ((((Int32.ofNat lo).toInt64) <<< ((32 : Int32) &&& 0x3f).toInt64) ||| ((Int32.ofNat hi).toInt64))), .second] [])) (fun t_ kk => XS.lstoreN X0.here hx rfl (hb hby d10_8) rfl (l' := #[.val (.ref a1), .val (.int (Int32.ofNat lo)), .val (.int (Int32.ofNat hi)), .val (.long ((((Int32.ofNat lo).toInt64) <<< ((32 : Int32) &&& 0x3f).toInt64) ||| ((Int32.ofNat hi).toInt64))), .second]) rfl kk) ?_
  refine own_st (F' := s₁.setTop (mkF m 10 #[.val (.ref a1), .val (.int (Int32.ofNat lo)), .val (.int (Int32.ofNat hi)), .val (.long ((((Int32.ofNat lo).toInt64) <<< ((32 : Int32) &&& 0x3f).toInt64) ||| ((Int32.ofNat hi).toInt64))), .second] [(.long ((((Int32.ofNat lo).toInt64) <<< ((32 : Int32) &&& 0x3f).toInt64) ||| ((Int32.ofNat hi).toInt64)))])) (fun t_ kk => XS.lloadN X0.here hx rfl (hb hby d10_9) rfl kk) ?_
  refine own_st (F' := s₁.setTop (mkF m 13 #[.val (.ref a1), .val (.int (Int32.ofNat lo)), .val (.int (Int32.ofNat hi)), .val (.long ((((Int32.ofNat lo).toInt64) <<< ((32 : Int32) &&& 0x3f).toInt64) ||| ((Int32.ofNat hi).toInt64))), .second] [(.long (-7046029254386353131 : Int64)), (.long ((((Int32.ofNat lo).toInt64) <<< ((32 : Int32) &&& 0x3f).toInt64) ||| ((Int32.ofNat hi).toInt64)))])) (X0.ldc2Long hx hown (mvT hZ (hw _ (List.mem_of_getElem? (i := 58) rfl))) (g := (mkF m 10 #[.val (.ref a1), .val (.int (Int32.ofNat lo)), .val (.int (Int32.ofNat hi)), .val (.long ((((Int32.ofNat lo).toInt64) <<< ((32 : Int32) &&& 0x3f).toInt64) ||| ((Int32.ofNat hi).toInt64))), .second] [(.long ((((Int32.ofNat lo).toInt64) <<< ((32 : Int32) &&& 0x3f).toInt64) ||| ((Int32.ofNat hi).toInt64)))])) rfl (hb hby d10_10)) ?_
  refine own_st (F' := s₁.setTop (mkF m 14 #[.val (.ref a1), .val (.int (Int32.ofNat lo)), .val (.int (Int32.ofNat hi)), .val (.long ((((Int32.ofNat lo).toInt64) <<< ((32 : Int32) &&& 0x3f).toInt64) ||| ((Int32.ofNat hi).toInt64))), .second] [(.long (((((Int32.ofNat lo).toInt64) <<< ((32 : Int32) &&& 0x3f).toInt64) ||| ((Int32.ofNat hi).toInt64)) * (-7046029254386353131 : Int64)))])) (fun t_ kk => XS.lmul X0.here hx rfl (hb hby d10_13) rfl kk) ?_
  refine own_st (F' := s₁.setTop (mkF m 16 #[.val (.ref a1), .val (.int (Int32.ofNat lo)), .val (.int (Int32.ofNat hi)), .val (.long ((((Int32.ofNat lo).toInt64) <<< ((32 : Int32) &&& 0x3f).toInt64) ||| ((Int32.ofNat hi).toInt64))), .second] [(.int (64 : Int32)), (.long (((((Int32.ofNat lo).toInt64) <<< ((32 : Int32) &&& 0x3f).toInt64) ||| ((Int32.ofNat hi).toInt64)) * (-7046029254386353131 : Int64)))])) (fun t_ kk => XS.bipush X0.here hx rfl (hb hby d10_14) kk) ?_
  refine own_st (F' := s₁.setTop (mkF m 17 #[.val (.ref a1), .val (.int (Int32.ofNat lo)), .val (.int (Int32.ofNat hi)), .val (.long ((((Int32.ofNat lo).toInt64) <<< ((32 : Int32) &&& 0x3f).toInt64) ||| ((Int32.ofNat hi).toInt64))), .second] [(.ref a1), (.int (64 : Int32)), (.long (((((Int32.ofNat lo).toInt64) <<< ((32 : Int32) &&& 0x3f).toInt64) ||| ((Int32.ofNat hi).toInt64)) * (-7046029254386353131 : Int64)))])) (fun t_ kk => XS.aloadN X0.here hx rfl (hb hby d10_16) rfl rfl kk) ?_
  obtain ⟨T1, X1, e1, st1⟩ := getF X0 hx hZ hown (host := "") (Or.inl (hw _ (List.mem_of_getElem? (i := 15) rfl))) Via.refl e0 f_table (g := (mkF m 17 #[.val (.ref a1), .val (.int (Int32.ofNat lo)), .val (.int (Int32.ofNat hi)), .val (.long ((((Int32.ofNat lo).toInt64) <<< ((32 : Int32) &&& 0x3f).toInt64) ||| ((Int32.ofNat hi).toInt64))), .second] [(.ref a1), (.int (64 : Int32)), (.long (((((Int32.ofNat lo).toInt64) <<< ((32 : Int32) &&& 0x3f).toInt64) ||| ((Int32.ofNat hi).toInt64)) * (-7046029254386353131 : Int64)))])) rfl rfl (hb hby d10_17)
  refine own_st (F' := T1.setTop (mkF m 20 #[.val (.ref a1), .val (.int (Int32.ofNat lo)), .val (.int (Int32.ofNat hi)), .val (.long ((((Int32.ofNat lo).toInt64) <<< ((32 : Int32) &&& 0x3f).toInt64) ||| ((Int32.ofNat hi).toInt64))), .second] [(.ref bt), (.int (64 : Int32)), (.long (((((Int32.ofNat lo).toInt64) <<< ((32 : Int32) &&& 0x3f).toInt64) ||| ((Int32.ofNat hi).toInt64)) * (-7046029254386353131 : Int64)))])) st1 ?_
  refine own_st (F' := T1.setTop (mkF m 21 #[.val (.ref a1), .val (.int (Int32.ofNat lo)), .val (.int (Int32.ofNat hi)), .val (.long ((((Int32.ofNat lo).toInt64) <<< ((32 : Int32) &&& 0x3f).toInt64) ||| ((Int32.ofNat hi).toInt64))), .second] [(.int (32 : Int32)), (.int (64 : Int32)), (.long (((((Int32.ofNat lo).toInt64) <<< ((32 : Int32) &&& 0x3f).toInt64) ||| ((Int32.ofNat hi).toInt64)) * (-7046029254386353131 : Int64)))])) (own_flen X1 hx hZ e1 V_t (hb hby d10_20)) ?_
  refine own_callS X1 hx hZ (y := (⟨"java/lang/Integer", "numberOfTrailingZeros", "(I)I"⟩ : MethodName)) hown (hw _ (List.mem_of_getElem? (i := 59) rfl)) (hw _ (List.mem_of_getElem? (i := 60) rfl)) (hw _ (List.mem_of_getElem? (i := 61) rfl)) (hw _ (List.mem_of_getElem? (i := 62) rfl)) (rm11 l Z a0 hw [] h0 n0 Z0) (by decide) (W := 3) (argsL := [(.int (32 : Int32))]) (rest := [(.int (64 : Int32)), (.long (((((Int32.ofNat lo).toInt64) <<< ((32 : Int32) &&& 0x3f).toInt64) ||| ((Int32.ofNat hi).toInt64)) * (-7046029254386353131 : Int64)))]) (by decide) (by decide) (by rw [hml]; rfl) (lenOf own_pd0 rfl) rfl rfl (Nat.le_of_eq rfl) (hb hby d10_21) e1 (by decide) (by decide) ?_
  intro v2 T2 L2 hQ2 X2
  obtain ⟨rfl, N2q, e2⟩ := hQ2
  have N2 := Fr.app N0 N2q
  show OWp p e below s _ _ _ (T2.setTop (mkF m 24 #[.val (.ref a1), .val (.int (Int32.ofNat lo)), .val (.int (Int32.ofNat hi)), .val (.long ((((Int32.ofNat lo).toInt64) <<< ((32 : Int32) &&& 0x3f).toInt64) ||| ((Int32.ofNat hi).toInt64))), .second] [(.int (5 : Int32)), (.int (64 : Int32)), (.long (((((Int32.ofNat lo).toInt64) <<< ((32 : Int32) &&& 0x3f).toInt64) ||| ((Int32.ofNat hi).toInt64)) * (-7046029254386353131 : Int64)))]))
  refine own_st (F' := T2.setTop (mkF m 25 #[.val (.ref a1), .val (.int (Int32.ofNat lo)), .val (.int (Int32.ofNat hi)), .val (.long ((((Int32.ofNat lo).toInt64) <<< ((32 : Int32) &&& 0x3f).toInt64) ||| ((Int32.ofNat hi).toInt64))), .second] [(.int (59 : Int32)), (.long (((((Int32.ofNat lo).toInt64) <<< ((32 : Int32) &&& 0x3f).toInt64) ||| ((Int32.ofNat hi).toInt64)) * (-7046029254386353131 : Int64)))])) (fun t_ kk => XS.isub X2.here hx rfl (hb hby d10_24) rfl kk) ?_
  refine own_st (F' := T2.setTop (mkF m 26 #[.val (.ref a1), .val (.int (Int32.ofNat lo)), .val (.int (Int32.ofNat hi)), .val (.long ((((Int32.ofNat lo).toInt64) <<< ((32 : Int32) &&& 0x3f).toInt64) ||| ((Int32.ofNat hi).toInt64))), .second] [(.long (((((((Int32.ofNat lo).toInt64) <<< ((32 : Int32) &&& 0x3f).toInt64) ||| ((Int32.ofNat hi).toInt64)) * (-7046029254386353131 : Int64)).toUInt64 >>> ((59 : Int32) &&& 0x3f).toInt64.toUInt64).toInt64))])) (fun t_ kk => XS.lushr X2.here hx rfl (hb hby d10_25) rfl kk) ?_
  refine own_st (F' := T2.setTop (mkF m 27 #[.val (.ref a1), .val (.int (Int32.ofNat lo)), .val (.int (Int32.ofNat hi)), .val (.long ((((Int32.ofNat lo).toInt64) <<< ((32 : Int32) &&& 0x3f).toInt64) ||| ((Int32.ofNat hi).toInt64))), .second] [(.int ((((((((Int32.ofNat lo).toInt64) <<< ((32 : Int32) &&& 0x3f).toInt64) ||| ((Int32.ofNat hi).toInt64)) * (-7046029254386353131 : Int64)).toUInt64 >>> ((59 : Int32) &&& 0x3f).toInt64.toUInt64).toInt64).toInt32))])) (fun t_ kk => XS.l2i X2.here hx rfl (hb hby d10_26) rfl kk) ?_
  refine own_fin X2 (some (.int ((((((((Int32.ofNat lo).toInt64) <<< ((32 : Int32) &&& 0x3f).toInt64) ||| ((Int32.ofNat hi).toInt64)) * (-7046029254386353131 : Int64)).toUInt64 >>> ((59 : Int32) &&& 0x3f).toInt64.toUInt64).toInt64).toInt32))) (fun h => by rw [Bd.returns] at h; cases h) Bd.notSynchronized (by decide) (by decide) (fun fs hr => X2.ireturnOut hx (t := .int) Bd.returns rfl (Or.inl rfl) (hb hby d10_27) hr) ?_
  rw [e2]
  exact ⟨by rw [← oSlot_eq hlo hhi]; rfl, N2, rfl⟩
theorem d5_0 : decode prog_8_method_2_code 0 = .ok (.aload_n 0, 1) := by decide +kernel
theorem d5_1 : decode prog_8_method_2_code 1 = .ok (.iconst 2, 1) := by decide +kernel
theorem d5_2 : decode prog_8_method_2_code 2 = .ok (.putfield 29, 3) := by decide +kernel
theorem d5_5 : decode prog_8_method_2_code 5 = .ok (.aload_n 0, 1) := by decide +kernel
theorem d5_6 : decode prog_8_method_2_code 6 = .ok (.dup, 1) := by decide +kernel
theorem d5_7 : decode prog_8_method_2_code 7 = .ok (.getfield 22, 3) := by decide +kernel
theorem d5_10 : decode prog_8_method_2_code 10 = .ok (.iconst 1, 1) := by decide +kernel
theorem d5_11 : decode prog_8_method_2_code 11 = .ok (.iadd, 1) := by decide +kernel
theorem d5_12 : decode prog_8_method_2_code 12 = .ok (.putfield 22, 3) := by decide +kernel
theorem d5_15 : decode prog_8_method_2_code 15 = .ok (.return_, 1) := by decide +kernel
def Q5 (Z : State) (a1 bl bh bt bs : Addr) (d : Nat) (S : OSt) (h0 : Heap) (n0 : Nat) (v : Option Value) (h : Heap) (L : List Loc) : Prop := v = none ∧ Fr n0 L ∧ Keep h0 h [a1, bl, bh, bt, bs] ∧ OFos Z h a1 bl bh bt bs d (oClear S)
theorem ef_5 (m : MethodId) (x0 : Addr) : entryFrame m #[(.ref x0)] 1 = mkF m 0 #[.val (.ref x0)] [] := by first | (simp [entryFrame, mkF, argsToLocals, Value.category]; done) | rfl
theorem pn_5 : plainName "com/example/slackline/slackline/planning/FileOrderSets" = true := by first | (simp [plainName, overriddenIn]; done) | decide +kernel
set_option maxRecDepth 65536 in
set_option maxHeartbeats 40000000 in
theorem rm5 (l : Launch) (Z : State) (a0 : Array Value) (hw : ∀ d ∈ tables_1, d.before a0 Z = true) (ws : List Jvm.Cond) (a1 bl bh bt bs : Addr) (d : Nat) (S : OSt) (h0 : Heap) (n0 : Nat) (Z0 : n0 ≤ h0.size) (I : OFos Z h0 a1 bl bh bt bs d S) (hg : n0 ≤ a1 ∧ n0 ≤ bl ∧ n0 ≤ bh ∧ n0 ≤ bt ∧ n0 ≤ bs) (hdis : ODis a1 bl bh bt bs) :
    MetFree l (⟨"com/example/slackline/slackline/planning/FileOrderSets", "clear", "()V"⟩ : MethodName) (head1 (Jvm.Cond.code (⟨"com/example/slackline/slackline/planning/FileOrderSets", "clear", "()V"⟩ : MethodName) prog_8_method_2_code 1 none :: ws) ({ frames := 0, cells := 0, slots := 0, locals := 0 } : Room)) (fun a U => a = #[(.ref a1)] ∧ Z.Warmed39 U.vm ∧ U.heap = h0) (fun _ _ _ _ _ => True) (fun _ U o U' => ∃ v L, o = .returned v ∧ Q5 Z a1 bl bh bt bs d S h0 n0 v U'.heap L ∧ FrameEnd U o U' L ({ frames := 0, cells := 0, slots := 0, locals := 0 } : Room).cells ({ frames := 0, cells := 0, slots := 0, locals := 0 } : Room).slots) := by
  refine MetFree.of_bodySF (plainFor_of_name pn_5) hisR ?_
  intro p e s m args below meth c s₁ Bd hml0 hP hK
  obtain ⟨rfl, hZ, hh⟩ := hP
  have hx := Bd.exec
  have hby := Bd.bytes
  have hml : c.maxLocals = 1 := hml0
  have hown : s.vm.findClass "com/example/slackline/slackline/planning/FileOrderSets" = some m.cls := findClass_of_methodNamed Bd.named
  have hnm := (name_of_methodNamed Bd.named Bd.method).1
  have X0 : Stand p l e ({ frames := 0, cells := 0, slots := 0, locals := 0 } : Room) s m #[(.ref a1)] below meth c s₁ [] 0 0 := Stand.of_body Bd
  have e0 : s₁.heap = h0 := by rw [← hh, Bd.state]; rfl
  have N0 := Fr.nil n0
  suffices hgoal : OWp p e below s ({ frames := 0, cells := 0, slots := 0, locals := 0 } : Room).cells ({ frames := 0, cells := 0, slots := 0, locals := 0 } : Room).slots (Q5 Z a1 bl bh bt bs d S h0 n0) (s₁.setTop (mkF m 0 #[.val (.ref a1)] [])) by
    rw [← ef_5] at hgoal; exact hgoal
  have I_ := I
  obtain ⟨E_a, f_depth, f_lows, f_highs, f_table, f_stamps, f_count, f_stamp, V_l, V_h, V_t, V_s⟩ := I
  obtain ⟨ne_a1_bl, ne_a1_bh, ne_a1_bt, ne_a1_bs, ne_bl_bh, ne_bl_bt, ne_bl_bs, ne_bh_bt, ne_bh_bs, ne_bt_bs⟩ := hdis
  refine own_st (F' := s₁.setTop (mkF m 1 #[.val (.ref a1)] [(.ref a1)])) (fun t_ kk => XS.aloadN X0.here hx rfl (hb hby d5_0) rfl rfl kk) ?_
  refine own_st (F' := s₁.setTop (mkF m 2 #[.val (.ref a1)] [(.int (2 : Int32)), (.ref a1)])) (fun t_ kk => XS.iconst X0.here hx rfl (hb hby d5_1) kk) ?_
  obtain ⟨T1, h1, X1, e1, W1, st1⟩ := putF X0 hx hZ hown (host := "") (Or.inl (hw _ (List.mem_of_getElem? (i := 23) rfl))) Via.refl e0 f_count E_a (Or.inl (hw _ (List.mem_of_getElem? (i := 24) rfl))) (hw _ (List.mem_of_getElem? (i := 2) rfl)) (ty := .int) (by decide) rfl rfl (g := (mkF m 2 #[.val (.ref a1)] [(.int (2 : Int32)), (.ref a1)])) rfl rfl (hb hby d5_2)
  have f2 := E_a.wr W1
  have f3 := f_depth.other W1 (Or.inr (slot_ne (Or.inr (hw _ (List.mem_of_getElem? (i := 22) rfl))) (Or.inl (hw _ (List.mem_of_getElem? (i := 24) rfl))) (by decide) (t := .int) (t' := .int) (by decide) (by decide)))
  have f4 := f_lows.other W1 (Or.inr (slot_ne (Or.inl (hw _ (List.mem_of_getElem? (i := 12) rfl))) (Or.inl (hw _ (List.mem_of_getElem? (i := 24) rfl))) (by decide) (t := (.array .int)) (t' := .int) (by decide) (by decide)))
  have f5 := f_highs.other W1 (Or.inr (slot_ne (Or.inl (hw _ (List.mem_of_getElem? (i := 14) rfl))) (Or.inl (hw _ (List.mem_of_getElem? (i := 24) rfl))) (by decide) (t := (.array .int)) (t' := .int) (by decide) (by decide)))
  have f6 := f_table.other W1 (Or.inr (slot_ne (Or.inl (hw _ (List.mem_of_getElem? (i := 16) rfl))) (Or.inl (hw _ (List.mem_of_getElem? (i := 24) rfl))) (by decide) (t := (.array .int)) (t' := .int) (by decide) (by decide)))
  have f7 := f_stamps.other W1 (Or.inr (slot_ne (Or.inl (hw _ (List.mem_of_getElem? (i := 18) rfl))) (Or.inl (hw _ (List.mem_of_getElem? (i := 24) rfl))) (by decide) (t := (.array .int)) (t' := .int) (by decide) (by decide)))
  have f8 := f_count.same W1
  have f9 := f_stamp.other W1 (Or.inr (slot_ne (Or.inl (hw _ (List.mem_of_getElem? (i := 20) rfl))) (Or.inl (hw _ (List.mem_of_getElem? (i := 24) rfl))) (by decide) (t := .int) (t' := .int) (by decide) (by decide)))
  have f10 := V_l.other W1 (Ne.symm ne_a1_bl)
  have f11 := V_h.other W1 (Ne.symm ne_a1_bh)
  have f12 := V_t.other W1 (Ne.symm ne_a1_bt)
  have f13 := V_s.other W1 (Ne.symm ne_a1_bs)
  have K14 := Keep.wr (Keep.refl h0 [a1, bl, bh, bt, bs]) W1 (Or.inl (List.mem_of_getElem? (i := 0) rfl))
  have Z15 := Nat.le_trans Z0 (Keep.of_wr W1).1
  have N16 := Fr.snoc X1 N0 hg.1
  refine own_st (F' := T1.setTop (mkF m 5 #[.val (.ref a1)] [])) st1 ?_
  refine own_st (F' := T1.setTop (mkF m 6 #[.val (.ref a1)] [(.ref a1)])) (fun t_ kk => XS.aloadN X1.here hx rfl (hb hby d5_5) rfl rfl kk) ?_
  refine own_st (F' := T1.setTop (mkF m 7 #[.val (.ref a1)] [(.ref a1), (.ref a1)])) (fun t_ kk => XS.dup X1.here hx rfl (hb hby d5_6) rfl rfl kk) ?_
  obtain ⟨T17, X17, e17, st17⟩ := getF X1 hx hZ hown (host := "") (Or.inl (hw _ (List.mem_of_getElem? (i := 19) rfl))) Via.refl e1 f9 (g := (mkF m 7 #[.val (.ref a1)] [(.ref a1), (.ref a1)])) rfl rfl (hb hby d5_7)
  refine own_st (F' := T17.setTop (mkF m 10 #[.val (.ref a1)] [(.int (Int32.ofNat (oSt S))), (.ref a1)])) st17 ?_
  refine own_st (F' := T17.setTop (mkF m 11 #[.val (.ref a1)] [(.int (1 : Int32)), (.int (Int32.ofNat (oSt S))), (.ref a1)])) (fun t_ kk => XS.iconst X17.here hx rfl (hb hby d5_10) kk) ?_
  refine own_st (F' := T17.setTop (mkF m 12 #[.val (.ref a1)] [(.int ((Int32.ofNat (oSt S)) + (1 : Int32))), (.ref a1)])) (fun t_ kk => XS.iadd X17.here hx rfl (hb hby d5_11) rfl kk) ?_
  rw [own_add1]
  show OWp p e below s _ _ _ (T17.setTop (mkF m 12 #[.val (.ref a1)] [(.int (Int32.ofNat ((oSt S) + 1))), (.ref a1)]))
  obtain ⟨T18, h18, X18, e18, W18, st18⟩ := putF X17 hx hZ hown (host := "") (Or.inl (hw _ (List.mem_of_getElem? (i := 19) rfl))) Via.refl e17 f9 f2 (Or.inl (hw _ (List.mem_of_getElem? (i := 20) rfl))) (hw _ (List.mem_of_getElem? (i := 2) rfl)) (ty := .int) (by decide) rfl rfl (g := (mkF m 12 #[.val (.ref a1)] [(.int (Int32.ofNat ((oSt S) + 1))), (.ref a1)])) rfl rfl (hb hby d5_12)
  have f19 := f2.wr W18
  have f20 := f3.other W18 (Or.inr (slot_ne (Or.inr (hw _ (List.mem_of_getElem? (i := 22) rfl))) (Or.inl (hw _ (List.mem_of_getElem? (i := 20) rfl))) (by decide) (t := .int) (t' := .int) (by decide) (by decide)))
  have f21 := f4.other W18 (Or.inr (slot_ne (Or.inl (hw _ (List.mem_of_getElem? (i := 12) rfl))) (Or.inl (hw _ (List.mem_of_getElem? (i := 20) rfl))) (by decide) (t := (.array .int)) (t' := .int) (by decide) (by decide)))
  have f22 := f5.other W18 (Or.inr (slot_ne (Or.inl (hw _ (List.mem_of_getElem? (i := 14) rfl))) (Or.inl (hw _ (List.mem_of_getElem? (i := 20) rfl))) (by decide) (t := (.array .int)) (t' := .int) (by decide) (by decide)))
  have f23 := f6.other W18 (Or.inr (slot_ne (Or.inl (hw _ (List.mem_of_getElem? (i := 16) rfl))) (Or.inl (hw _ (List.mem_of_getElem? (i := 20) rfl))) (by decide) (t := (.array .int)) (t' := .int) (by decide) (by decide)))
  have f24 := f7.other W18 (Or.inr (slot_ne (Or.inl (hw _ (List.mem_of_getElem? (i := 18) rfl))) (Or.inl (hw _ (List.mem_of_getElem? (i := 20) rfl))) (by decide) (t := (.array .int)) (t' := .int) (by decide) (by decide)))
  have f25 := f8.other W18 (Or.inr (slot_ne (Or.inl (hw _ (List.mem_of_getElem? (i := 24) rfl))) (Or.inl (hw _ (List.mem_of_getElem? (i := 20) rfl))) (by decide) (t := .int) (t' := .int) (by decide) (by decide)))
  have f26 := f9.same W18
  have f27 := f10.other W18 (Ne.symm ne_a1_bl)
  have f28 := f11.other W18 (Ne.symm ne_a1_bh)
  have f29 := f12.other W18 (Ne.symm ne_a1_bt)
  have f30 := f13.other W18 (Ne.symm ne_a1_bs)
  have K31 := Keep.wr K14 W18 (Or.inl (List.mem_of_getElem? (i := 0) rfl))
  have Z32 := Nat.le_trans Z15 (Keep.of_wr W18).1
  have N33 := Fr.snoc X18 N16 hg.1
  refine own_st (F' := T18.setTop (mkF m 15 #[.val (.ref a1)] [])) st18 ?_
  refine own_fin X18 none (fun _ => rfl) Bd.notSynchronized (by decide) (by decide) (fun fs hr => X18.returnOut hx Bd.returns (hb hby d5_15) hr) ?_
  rw [e18]
  exact ⟨rfl, N33, K31, ⟨f19, f20, f21, f22, f23, f24, f25, f26, f27, f28, f29, f30⟩⟩
theorem d9_0 : decode prog_8_method_11_code 0 = .ok (.iload_n 1, 1) := by decide +kernel
theorem d9_1 : decode prog_8_method_11_code 1 = .ok (.ifCond .ne 9, 3) := by decide +kernel
theorem d9_4 : decode prog_8_method_11_code 4 = .ok (.iload_n 2, 1) := by decide +kernel
theorem d9_5 : decode prog_8_method_11_code 5 = .ok (.ifCond .ne 5, 3) := by decide +kernel
theorem d9_8 : decode prog_8_method_11_code 8 = .ok (.iconst 0, 1) := by decide +kernel
theorem d9_9 : decode prog_8_method_11_code 9 = .ok (.ireturn, 1) := by decide +kernel
theorem d9_10 : decode prog_8_method_11_code 10 = .ok (.aload_n 0, 1) := by decide +kernel
theorem d9_11 : decode prog_8_method_11_code 11 = .ok (.iload_n 1, 1) := by decide +kernel
theorem d9_12 : decode prog_8_method_11_code 12 = .ok (.iload_n 2, 1) := by decide +kernel
theorem d9_13 : decode prog_8_method_11_code 13 = .ok (.invokevirtual 57, 3) := by decide +kernel
theorem d9_16 : decode prog_8_method_11_code 16 = .ok (.istore_n 3, 1) := by decide +kernel
theorem d9_17 : decode prog_8_method_11_code 17 = .ok (.aload_n 0, 1) := by decide +kernel
theorem d9_18 : decode prog_8_method_11_code 18 = .ok (.getfield 19, 3) := by decide +kernel
theorem d9_21 : decode prog_8_method_11_code 21 = .ok (.iload_n 3, 1) := by decide +kernel
theorem d9_22 : decode prog_8_method_11_code 22 = .ok (.iaload, 1) := by decide +kernel
theorem d9_23 : decode prog_8_method_11_code 23 = .ok (.aload_n 0, 1) := by decide +kernel
theorem d9_24 : decode prog_8_method_11_code 24 = .ok (.getfield 22, 3) := by decide +kernel
theorem d9_27 : decode prog_8_method_11_code 27 = .ok (.if_icmp .ne 51, 3) := by decide +kernel
theorem d9_30 : decode prog_8_method_11_code 30 = .ok (.aload_n 0, 1) := by decide +kernel
theorem d9_31 : decode prog_8_method_11_code 31 = .ok (.getfield 16, 3) := by decide +kernel
theorem d9_34 : decode prog_8_method_11_code 34 = .ok (.iload_n 3, 1) := by decide +kernel
theorem d9_35 : decode prog_8_method_11_code 35 = .ok (.iaload, 1) := by decide +kernel
theorem d9_36 : decode prog_8_method_11_code 36 = .ok (.istore 4, 2) := by decide +kernel
theorem d9_38 : decode prog_8_method_11_code 38 = .ok (.aload_n 0, 1) := by decide +kernel
theorem d9_39 : decode prog_8_method_11_code 39 = .ok (.getfield 7, 3) := by decide +kernel
theorem d9_42 : decode prog_8_method_11_code 42 = .ok (.iload 4, 2) := by decide +kernel
theorem d9_44 : decode prog_8_method_11_code 44 = .ok (.iaload, 1) := by decide +kernel
theorem d9_45 : decode prog_8_method_11_code 45 = .ok (.iload_n 1, 1) := by decide +kernel
theorem d9_46 : decode prog_8_method_11_code 46 = .ok (.if_icmp .ne 17, 3) := by decide +kernel
theorem d9_49 : decode prog_8_method_11_code 49 = .ok (.aload_n 0, 1) := by decide +kernel
theorem d9_50 : decode prog_8_method_11_code 50 = .ok (.getfield 13, 3) := by decide +kernel
theorem d9_53 : decode prog_8_method_11_code 53 = .ok (.iload 4, 2) := by decide +kernel
theorem d9_55 : decode prog_8_method_11_code 55 = .ok (.iaload, 1) := by decide +kernel
theorem d9_56 : decode prog_8_method_11_code 56 = .ok (.iload_n 2, 1) := by decide +kernel
theorem d9_57 : decode prog_8_method_11_code 57 = .ok (.if_icmp .ne 6, 3) := by decide +kernel
theorem d9_60 : decode prog_8_method_11_code 60 = .ok (.iload 4, 2) := by decide +kernel
theorem d9_62 : decode prog_8_method_11_code 62 = .ok (.ireturn, 1) := by decide +kernel
theorem d9_63 : decode prog_8_method_11_code 63 = .ok (.iload_n 3, 1) := by decide +kernel
theorem d9_64 : decode prog_8_method_11_code 64 = .ok (.iconst 1, 1) := by decide +kernel
theorem d9_65 : decode prog_8_method_11_code 65 = .ok (.iadd, 1) := by decide +kernel
theorem d9_66 : decode prog_8_method_11_code 66 = .ok (.aload_n 0, 1) := by decide +kernel
theorem d9_67 : decode prog_8_method_11_code 67 = .ok (.getfield 16, 3) := by decide +kernel
theorem d9_70 : decode prog_8_method_11_code 70 = .ok (.arraylength, 1) := by decide +kernel
theorem d9_71 : decode prog_8_method_11_code 71 = .ok (.iconst 1, 1) := by decide +kernel
theorem d9_72 : decode prog_8_method_11_code 72 = .ok (.isub, 1) := by decide +kernel
theorem d9_73 : decode prog_8_method_11_code 73 = .ok (.iand, 1) := by decide +kernel
theorem d9_74 : decode prog_8_method_11_code 74 = .ok (.istore_n 3, 1) := by decide +kernel
theorem d9_75 : decode prog_8_method_11_code 75 = .ok (.goto (-58), 3) := by decide +kernel
theorem d9_78 : decode prog_8_method_11_code 78 = .ok (.aload_n 0, 1) := by decide +kernel
theorem d9_79 : decode prog_8_method_11_code 79 = .ok (.getfield 29, 3) := by decide +kernel
theorem d9_82 : decode prog_8_method_11_code 82 = .ok (.aload_n 0, 1) := by decide +kernel
theorem d9_83 : decode prog_8_method_11_code 83 = .ok (.getfield 7, 3) := by decide +kernel
theorem d9_86 : decode prog_8_method_11_code 86 = .ok (.arraylength, 1) := by decide +kernel
theorem d9_87 : decode prog_8_method_11_code 87 = .ok (.if_icmp .ne 37, 3) := by decide +kernel
theorem d9_124 : decode prog_8_method_11_code 124 = .ok (.aload_n 0, 1) := by decide +kernel
theorem d9_125 : decode prog_8_method_11_code 125 = .ok (.dup, 1) := by decide +kernel
theorem d9_126 : decode prog_8_method_11_code 126 = .ok (.getfield 29, 3) := by decide +kernel
theorem d9_129 : decode prog_8_method_11_code 129 = .ok (.dup_x1, 1) := by decide +kernel
theorem d9_130 : decode prog_8_method_11_code 130 = .ok (.iconst 1, 1) := by decide +kernel
theorem d9_131 : decode prog_8_method_11_code 131 = .ok (.iadd, 1) := by decide +kernel
theorem d9_132 : decode prog_8_method_11_code 132 = .ok (.putfield 29, 3) := by decide +kernel
theorem d9_135 : decode prog_8_method_11_code 135 = .ok (.istore 4, 2) := by decide +kernel
theorem d9_137 : decode prog_8_method_11_code 137 = .ok (.aload_n 0, 1) := by decide +kernel
theorem d9_138 : decode prog_8_method_11_code 138 = .ok (.getfield 7, 3) := by decide +kernel
theorem d9_141 : decode prog_8_method_11_code 141 = .ok (.iload 4, 2) := by decide +kernel
theorem d9_143 : decode prog_8_method_11_code 143 = .ok (.iload_n 1, 1) := by decide +kernel
theorem d9_144 : decode prog_8_method_11_code 144 = .ok (.iastore, 1) := by decide +kernel
theorem d9_145 : decode prog_8_method_11_code 145 = .ok (.aload_n 0, 1) := by decide +kernel
theorem d9_146 : decode prog_8_method_11_code 146 = .ok (.getfield 13, 3) := by decide +kernel
theorem d9_149 : decode prog_8_method_11_code 149 = .ok (.iload 4, 2) := by decide +kernel
theorem d9_151 : decode prog_8_method_11_code 151 = .ok (.iload_n 2, 1) := by decide +kernel
theorem d9_152 : decode prog_8_method_11_code 152 = .ok (.iastore, 1) := by decide +kernel
theorem d9_153 : decode prog_8_method_11_code 153 = .ok (.iconst 2, 1) := by decide +kernel
theorem d9_154 : decode prog_8_method_11_code 154 = .ok (.aload_n 0, 1) := by decide +kernel
theorem d9_155 : decode prog_8_method_11_code 155 = .ok (.getfield 29, 3) := by decide +kernel
theorem d9_158 : decode prog_8_method_11_code 158 = .ok (.imul, 1) := by decide +kernel
theorem d9_159 : decode prog_8_method_11_code 159 = .ok (.aload_n 0, 1) := by decide +kernel
theorem d9_160 : decode prog_8_method_11_code 160 = .ok (.getfield 16, 3) := by decide +kernel
theorem d9_163 : decode prog_8_method_11_code 163 = .ok (.arraylength, 1) := by decide +kernel
theorem d9_164 : decode prog_8_method_11_code 164 = .ok (.if_icmp .le 10, 3) := by decide +kernel
theorem d9_174 : decode prog_8_method_11_code 174 = .ok (.aload_n 0, 1) := by decide +kernel
theorem d9_175 : decode prog_8_method_11_code 175 = .ok (.getfield 16, 3) := by decide +kernel
theorem d9_178 : decode prog_8_method_11_code 178 = .ok (.iload_n 3, 1) := by decide +kernel
theorem d9_179 : decode prog_8_method_11_code 179 = .ok (.iload 4, 2) := by decide +kernel
theorem d9_181 : decode prog_8_method_11_code 181 = .ok (.iastore, 1) := by decide +kernel
theorem d9_182 : decode prog_8_method_11_code 182 = .ok (.aload_n 0, 1) := by decide +kernel
theorem d9_183 : decode prog_8_method_11_code 183 = .ok (.getfield 19, 3) := by decide +kernel
theorem d9_186 : decode prog_8_method_11_code 186 = .ok (.iload_n 3, 1) := by decide +kernel
theorem d9_187 : decode prog_8_method_11_code 187 = .ok (.aload_n 0, 1) := by decide +kernel
theorem d9_188 : decode prog_8_method_11_code 188 = .ok (.getfield 22, 3) := by decide +kernel
theorem d9_191 : decode prog_8_method_11_code 191 = .ok (.iastore, 1) := by decide +kernel
theorem d9_192 : decode prog_8_method_11_code 192 = .ok (.iload 4, 2) := by decide +kernel
theorem d9_194 : decode prog_8_method_11_code 194 = .ok (.ireturn, 1) := by decide +kernel
def Q9 (Z : State) (a1 bl bh bt bs : Addr) (d : Nat) (S : OSt) (lo hi : Nat) (h0 : Heap) (n0 : Nat) (v : Option Value) (h : Heap) (L : List Loc) : Prop := v = some (.int (Int32.ofNat (oJoin S lo hi).2)) ∧ Fr n0 L ∧ Keep h0 h [a1, bl, bh, bt, bs] ∧ OFos Z h a1 bl bh bt bs d (oJoin S lo hi).1
theorem ef_9 (m : MethodId) (x0 : Addr) (x1 x2 : Int32) : entryFrame m #[(.ref x0), (.int x1), (.int x2)] 5 = mkF m 0 #[.val (.ref x0), .val (.int x1), .val (.int x2), .unset, .unset] [] := by first | (simp [entryFrame, mkF, argsToLocals, Value.category]; done) | rfl
theorem pn_9 : plainName "com/example/slackline/slackline/planning/FileOrderSets" = true := by first | (simp [plainName, overriddenIn]; done) | decide +kernel
set_option maxRecDepth 65536 in
set_option maxHeartbeats 40000000 in
theorem rm9 (l : Launch) (Z : State) (a0 : Array Value) (hw : ∀ d ∈ tables_1, d.before a0 Z = true) (ws : List Jvm.Cond) (a1 bl bh bt bs : Addr) (d : Nat) (S : OSt) (lo hi : Nat) (h0 : Heap) (n0 : Nat) (Z0 : n0 ≤ h0.size) (I : OFos Z h0 a1 bl bh bt bs d S) (hg : n0 ≤ a1 ∧ n0 ≤ bl ∧ n0 ≤ bh ∧ n0 ≤ bt ∧ n0 ≤ bs) (hdis : ODis a1 bl bh bt bs) (hI : OInv S) (hc : oCn S ≤ 15) (hst : oSt S < 64) (hlo : lo < oCn S) (hhi : hi < oCn S) :
    MetFree l (⟨"com/example/slackline/slackline/planning/FileOrderSets", "join", "(II)I"⟩ : MethodName) (head1 (Jvm.Cond.code (⟨"com/example/slackline/slackline/planning/FileOrderSets", "join", "(II)I"⟩ : MethodName) prog_8_method_11_code 5 (some .int) :: ws) ({ frames := 2, cells := 0, slots := 0, locals := 32 } : Room)) (fun a U => a = #[(.ref a1), (.int (Int32.ofNat lo)), (.int (Int32.ofNat hi))] ∧ Z.Warmed39 U.vm ∧ U.heap = h0) (fun _ _ _ _ _ => True) (fun _ U o U' => ∃ v L, o = .returned v ∧ Q9 Z a1 bl bh bt bs d S lo hi h0 n0 v U'.heap L ∧ FrameEnd U o U' L ({ frames := 2, cells := 0, slots := 0, locals := 32 } : Room).cells ({ frames := 2, cells := 0, slots := 0, locals := 32 } : Room).slots) := by
  refine MetFree.of_bodySF (plainFor_of_name pn_9) hisR ?_
  intro p e s m args below meth c s₁ Bd hml0 hP hK
  obtain ⟨rfl, hZ, hh⟩ := hP
  have hx := Bd.exec
  have hby := Bd.bytes
  have hml : c.maxLocals = 5 := hml0
  have hown : s.vm.findClass "com/example/slackline/slackline/planning/FileOrderSets" = some m.cls := findClass_of_methodNamed Bd.named
  have hnm := (name_of_methodNamed Bd.named Bd.method).1
  have X0 : Stand p l e ({ frames := 2, cells := 0, slots := 0, locals := 32 } : Room) s m #[(.ref a1), (.int (Int32.ofNat lo)), (.int (Int32.ofNat hi))] below meth c s₁ [] 0 0 := Stand.of_body Bd
  have e0 : s₁.heap = h0 := by rw [← hh, Bd.state]; rfl
  have N0 := Fr.nil n0
  suffices hgoal : OWp p e below s ({ frames := 2, cells := 0, slots := 0, locals := 32 } : Room).cells ({ frames := 2, cells := 0, slots := 0, locals := 32 } : Room).slots (Q9 Z a1 bl bh bt bs d S lo hi h0 n0) (s₁.setTop (mkF m 0 #[.val (.ref a1), .val (.int (Int32.ofNat lo)), .val (.int (Int32.ofNat hi)), .unset, .unset] [])) by
    rw [← ef_9] at hgoal; exact hgoal
  have I_ := I
  obtain ⟨E_a, f_depth, f_lows, f_highs, f_table, f_stamps, f_count, f_stamp, V_l, V_h, V_t, V_s⟩ := I
  obtain ⟨ne_a1_bl, ne_a1_bh, ne_a1_bt, ne_a1_bs, ne_bl_bh, ne_bl_bt, ne_bl_bs, ne_bh_bt, ne_bh_bs, ne_bt_bs⟩ := hdis
  have b1 : lo < 2147483648 := by omega
  have b2 : hi < 2147483648 := by omega
  have b3 : oSt S < 2147483648 := by omega
  have b4 : oCn S < 2147483648 := by omega
  have loop : ∀ (f slot : Nat) (s4 : Slot) (T : State) (L : List Loc), Stand p l e ({ frames := 2, cells := 0, slots := 0, locals := 32 } : Room) s m #[(.ref a1), (.int (Int32.ofNat lo)), (.int (Int32.ofNat hi))] below meth c T L 0 0 → Fr n0 L → T.heap = h0 → (s4 = .unset ∨ ∃ w, s4 = .val w ∧ w.category = 1) → slot < 32 → (∃ dd, dd < f ∧ oSp S ((slot + dd) % 32) ≠ oSt S) → oProbe S lo hi f slot = oJoin S lo hi →
      OWp p e below s ({ frames := 2, cells := 0, slots := 0, locals := 32 } : Room).cells ({ frames := 2, cells := 0, slots := 0, locals := 32 } : Room).slots (Q9 Z a1 bl bh bt bs d S lo hi h0 n0) (T.setTop (mkF m 17 #[.val (.ref a1), .val (.int (Int32.ofNat lo)), .val (.int (Int32.ofNat hi)), .val (.int (Int32.ofNat slot)), s4] [])) := by
    intro f
    induction f with
    | zero => intro slot s4 T L _ _ _ _ _ q; obtain ⟨dd, h, _⟩ := q; exact absurd h (Nat.not_lt_zero _)
    | succ f ih =>
      intro slot s4 TT LL XX NN ee hs4 hslot hfree hP
      have b5 : oSp S slot < 2147483648 := Nat.lt_trans (V_s.b64 (i := slot) hslot) (by decide)
      rw [oProbe] at hP
      refine own_st (F' := TT.setTop (mkF m 18 #[.val (.ref a1), .val (.int (Int32.ofNat lo)), .val (.int (Int32.ofNat hi)), .val (.int (Int32.ofNat slot)), s4] [(.ref a1)])) (fun t_ kk => XS.aloadN XX.here hx rfl (hb hby d9_17) rfl rfl kk) ?_
      obtain ⟨T1, X1, e1, st1⟩ := getF XX hx hZ hown (host := "") (Or.inl (hw _ (List.mem_of_getElem? (i := 17) rfl))) Via.refl ee f_stamps (g := (mkF m 18 #[.val (.ref a1), .val (.int (Int32.ofNat lo)), .val (.int (Int32.ofNat hi)), .val (.int (Int32.ofNat slot)), s4] [(.ref a1)])) rfl rfl (hb hby d9_18)
      refine own_st (F' := T1.setTop (mkF m 21 #[.val (.ref a1), .val (.int (Int32.ofNat lo)), .val (.int (Int32.ofNat hi)), .val (.int (Int32.ofNat slot)), s4] [(.ref bs)])) st1 ?_
      refine own_st (F' := T1.setTop (mkF m 22 #[.val (.ref a1), .val (.int (Int32.ofNat lo)), .val (.int (Int32.ofNat hi)), .val (.int (Int32.ofNat slot)), s4] [(.int (Int32.ofNat slot)), (.ref bs)])) (fun t_ kk => XS.iloadN X1.here hx rfl (hb hby d9_21) rfl kk) ?_
      refine own_st (F' := T1.setTop (mkF m 23 #[.val (.ref a1), .val (.int (Int32.ofNat lo)), .val (.int (Int32.ofNat hi)), .val (.int (Int32.ofNat slot)), s4] [(.int (Int32.ofNat ((oSp S) slot)))])) (own_fld X1 hx hZ e1 V_s (i := slot) hslot (hb hby d9_22)) ?_
      refine own_st (F' := T1.setTop (mkF m 24 #[.val (.ref a1), .val (.int (Int32.ofNat lo)), .val (.int (Int32.ofNat hi)), .val (.int (Int32.ofNat slot)), s4] [(.ref a1), (.int (Int32.ofNat ((oSp S) slot)))])) (fun t_ kk => XS.aloadN X1.here hx rfl (hb hby d9_23) rfl rfl kk) ?_
      obtain ⟨T2, X2, e2, st2⟩ := getF X1 hx hZ hown (host := "") (Or.inl (hw _ (List.mem_of_getElem? (i := 19) rfl))) Via.refl e1 f_stamp (g := (mkF m 24 #[.val (.ref a1), .val (.int (Int32.ofNat lo)), .val (.int (Int32.ofNat hi)), .val (.int (Int32.ofNat slot)), s4] [(.ref a1), (.int (Int32.ofNat ((oSp S) slot)))])) rfl rfl (hb hby d9_24)
      refine own_st (F' := T2.setTop (mkF m 27 #[.val (.ref a1), .val (.int (Int32.ofNat lo)), .val (.int (Int32.ofNat hi)), .val (.int (Int32.ofNat slot)), s4] [(.int (Int32.ofNat (oSt S))), (.int (Int32.ofNat ((oSp S) slot)))])) st2 ?_
      by_cases hc3 : oSp S slot = oSt S
      · -- pc 27: oSp S slot = oSt S
        refine own_st (F' := T2.setTop (mkF m 30 #[.val (.ref a1), .val (.int (Int32.ofNat lo)), .val (.int (Int32.ofNat hi)), .val (.int (Int32.ofNat slot)), s4] [])) (fun t_ kk => XS.icmpNo X2.here hx rfl (hb hby d9_27) rfl (teq ((own_inj b5 b3).mpr hc3)).2 kk) ?_
        refine own_st (F' := T2.setTop (mkF m 31 #[.val (.ref a1), .val (.int (Int32.ofNat lo)), .val (.int (Int32.ofNat hi)), .val (.int (Int32.ofNat slot)), s4] [(.ref a1)])) (fun t_ kk => XS.aloadN X2.here hx rfl (hb hby d9_30) rfl rfl kk) ?_
        obtain ⟨T4, X4, e4, st4⟩ := getF X2 hx hZ hown (host := "") (Or.inl (hw _ (List.mem_of_getElem? (i := 15) rfl))) Via.refl e2 f_table (g := (mkF m 31 #[.val (.ref a1), .val (.int (Int32.ofNat lo)), .val (.int (Int32.ofNat hi)), .val (.int (Int32.ofNat slot)), s4] [(.ref a1)])) rfl rfl (hb hby d9_31)
        refine own_st (F' := T4.setTop (mkF m 34 #[.val (.ref a1), .val (.int (Int32.ofNat lo)), .val (.int (Int32.ofNat hi)), .val (.int (Int32.ofNat slot)), s4] [(.ref bt)])) st4 ?_
        refine own_st (F' := T4.setTop (mkF m 35 #[.val (.ref a1), .val (.int (Int32.ofNat lo)), .val (.int (Int32.ofNat hi)), .val (.int (Int32.ofNat slot)), s4] [(.int (Int32.ofNat slot)), (.ref bt)])) (fun t_ kk => XS.iloadN X4.here hx rfl (hb hby d9_34) rfl kk) ?_
        refine own_st (F' := T4.setTop (mkF m 36 #[.val (.ref a1), .val (.int (Int32.ofNat lo)), .val (.int (Int32.ofNat hi)), .val (.int (Int32.ofNat slot)), s4] [(.int (Int32.ofNat ((oTa S) slot)))])) (own_fld X4 hx hZ e4 V_t (i := slot) hslot (hb hby d9_35)) ?_
        refine own_st (F' := T4.setTop (mkF m 38 #[.val (.ref a1), .val (.int (Int32.ofNat lo)), .val (.int (Int32.ofNat hi)), .val (.int (Int32.ofNat slot)), .val (.int (Int32.ofNat ((oTa S) slot)))] [])) (fun t_ kk => XS.istoreS X4.here hx rfl (hb hby d9_36) rfl rfl hs4 kk) ?_
        have ht := hI.2.2.2.2.1 slot hslot hc3
        have ht16 : oTa S slot < 16 := by omega
        have hb6 : oLo S (oTa S slot) < 2147483648 := Nat.lt_trans (V_l.b64 (i := oTa S slot) ht16) (by decide)
        have hb7 : oHi S (oTa S slot) < 2147483648 := Nat.lt_trans (V_h.b64 (i := oTa S slot) ht16) (by decide)
        rw [if_pos hc3] at hP
        refine own_st (F' := T4.setTop (mkF m 39 #[.val (.ref a1), .val (.int (Int32.ofNat lo)), .val (.int (Int32.ofNat hi)), .val (.int (Int32.ofNat slot)), .val (.int (Int32.ofNat ((oTa S) slot)))] [(.ref a1)])) (fun t_ kk => XS.aloadN X4.here hx rfl (hb hby d9_38) rfl rfl kk) ?_
        obtain ⟨T5, X5, e5, st5⟩ := getF X4 hx hZ hown (host := "") (Or.inl (hw _ (List.mem_of_getElem? (i := 11) rfl))) Via.refl e4 f_lows (g := (mkF m 39 #[.val (.ref a1), .val (.int (Int32.ofNat lo)), .val (.int (Int32.ofNat hi)), .val (.int (Int32.ofNat slot)), .val (.int (Int32.ofNat ((oTa S) slot)))] [(.ref a1)])) rfl rfl (hb hby d9_39)
        refine own_st (F' := T5.setTop (mkF m 42 #[.val (.ref a1), .val (.int (Int32.ofNat lo)), .val (.int (Int32.ofNat hi)), .val (.int (Int32.ofNat slot)), .val (.int (Int32.ofNat ((oTa S) slot)))] [(.ref bl)])) st5 ?_
        refine own_st (F' := T5.setTop (mkF m 44 #[.val (.ref a1), .val (.int (Int32.ofNat lo)), .val (.int (Int32.ofNat hi)), .val (.int (Int32.ofNat slot)), .val (.int (Int32.ofNat ((oTa S) slot)))] [(.int (Int32.ofNat ((oTa S) slot))), (.ref bl)])) (fun t_ kk => XS.iload X5.here hx rfl (hb hby d9_42) rfl kk) ?_
        refine own_st (F' := T5.setTop (mkF m 45 #[.val (.ref a1), .val (.int (Int32.ofNat lo)), .val (.int (Int32.ofNat hi)), .val (.int (Int32.ofNat slot)), .val (.int (Int32.ofNat ((oTa S) slot)))] [(.int (Int32.ofNat ((oLo S) ((oTa S) slot))))])) (own_fld X5 hx hZ e5 V_l (i := ((oTa S) slot)) ht16 (hb hby d9_44)) ?_
        refine own_st (F' := T5.setTop (mkF m 46 #[.val (.ref a1), .val (.int (Int32.ofNat lo)), .val (.int (Int32.ofNat hi)), .val (.int (Int32.ofNat slot)), .val (.int (Int32.ofNat ((oTa S) slot)))] [(.int (Int32.ofNat lo)), (.int (Int32.ofNat ((oLo S) ((oTa S) slot))))])) (fun t_ kk => XS.iloadN X5.here hx rfl (hb hby d9_45) rfl kk) ?_
        by_cases hc6 : oLo S (oTa S slot) = lo
        · -- pc 46: oLo S (oTa S slot) = lo
          refine own_st (F' := T5.setTop (mkF m 49 #[.val (.ref a1), .val (.int (Int32.ofNat lo)), .val (.int (Int32.ofNat hi)), .val (.int (Int32.ofNat slot)), .val (.int (Int32.ofNat ((oTa S) slot)))] [])) (fun t_ kk => XS.icmpNo X5.here hx rfl (hb hby d9_46) rfl (teq ((own_inj hb6 b1).mpr hc6)).2 kk) ?_
          refine own_st (F' := T5.setTop (mkF m 50 #[.val (.ref a1), .val (.int (Int32.ofNat lo)), .val (.int (Int32.ofNat hi)), .val (.int (Int32.ofNat slot)), .val (.int (Int32.ofNat ((oTa S) slot)))] [(.ref a1)])) (fun t_ kk => XS.aloadN X5.here hx rfl (hb hby d9_49) rfl rfl kk) ?_
          obtain ⟨T7, X7, e7, st7⟩ := getF X5 hx hZ hown (host := "") (Or.inl (hw _ (List.mem_of_getElem? (i := 13) rfl))) Via.refl e5 f_highs (g := (mkF m 50 #[.val (.ref a1), .val (.int (Int32.ofNat lo)), .val (.int (Int32.ofNat hi)), .val (.int (Int32.ofNat slot)), .val (.int (Int32.ofNat ((oTa S) slot)))] [(.ref a1)])) rfl rfl (hb hby d9_50)
          refine own_st (F' := T7.setTop (mkF m 53 #[.val (.ref a1), .val (.int (Int32.ofNat lo)), .val (.int (Int32.ofNat hi)), .val (.int (Int32.ofNat slot)), .val (.int (Int32.ofNat ((oTa S) slot)))] [(.ref bh)])) st7 ?_
          refine own_st (F' := T7.setTop (mkF m 55 #[.val (.ref a1), .val (.int (Int32.ofNat lo)), .val (.int (Int32.ofNat hi)), .val (.int (Int32.ofNat slot)), .val (.int (Int32.ofNat ((oTa S) slot)))] [(.int (Int32.ofNat ((oTa S) slot))), (.ref bh)])) (fun t_ kk => XS.iload X7.here hx rfl (hb hby d9_53) rfl kk) ?_
          refine own_st (F' := T7.setTop (mkF m 56 #[.val (.ref a1), .val (.int (Int32.ofNat lo)), .val (.int (Int32.ofNat hi)), .val (.int (Int32.ofNat slot)), .val (.int (Int32.ofNat ((oTa S) slot)))] [(.int (Int32.ofNat ((oHi S) ((oTa S) slot))))])) (own_fld X7 hx hZ e7 V_h (i := ((oTa S) slot)) ht16 (hb hby d9_55)) ?_
          refine own_st (F' := T7.setTop (mkF m 57 #[.val (.ref a1), .val (.int (Int32.ofNat lo)), .val (.int (Int32.ofNat hi)), .val (.int (Int32.ofNat slot)), .val (.int (Int32.ofNat ((oTa S) slot)))] [(.int (Int32.ofNat hi)), (.int (Int32.ofNat ((oHi S) ((oTa S) slot))))])) (fun t_ kk => XS.iloadN X7.here hx rfl (hb hby d9_56) rfl kk) ?_
          by_cases hc8 : oHi S (oTa S slot) = hi
          · -- pc 57: oHi S (oTa S slot) = hi
            refine own_st (F' := T7.setTop (mkF m 60 #[.val (.ref a1), .val (.int (Int32.ofNat lo)), .val (.int (Int32.ofNat hi)), .val (.int (Int32.ofNat slot)), .val (.int (Int32.ofNat ((oTa S) slot)))] [])) (fun t_ kk => XS.icmpNo X7.here hx rfl (hb hby d9_57) rfl (teq ((own_inj hb7 b2).mpr hc8)).2 kk) ?_
            refine own_st (F' := T7.setTop (mkF m 62 #[.val (.ref a1), .val (.int (Int32.ofNat lo)), .val (.int (Int32.ofNat hi)), .val (.int (Int32.ofNat slot)), .val (.int (Int32.ofNat ((oTa S) slot)))] [(.int (Int32.ofNat ((oTa S) slot)))])) (fun t_ kk => XS.iload X7.here hx rfl (hb hby d9_60) rfl kk) ?_
            refine own_fin X7 (some (.int (Int32.ofNat ((oTa S) slot)))) (fun h => by rw [Bd.returns] at h; cases h) Bd.notSynchronized (by decide) (by decide) (fun fs hr => X7.ireturnOut hx (t := .int) Bd.returns rfl (Or.inl rfl) (hb hby d9_62) hr) ?_
            rw [e7]
            rw [if_pos ⟨hc6, hc8⟩] at hP
            unfold Q9; rw [← hP]; exact ⟨rfl, NN, (Keep.refl h0 [a1, bl, bh, bt, bs]), I_⟩
          · -- pc 57: not oHi S (oTa S slot) = hi
            refine own_st (F' := T7.setTop (mkF m 63 #[.val (.ref a1), .val (.int (Int32.ofNat lo)), .val (.int (Int32.ofNat hi)), .val (.int (Int32.ofNat slot)), .val (.int (Int32.ofNat ((oTa S) slot)))] [])) (fun t_ kk => XS.icmpYes X7.here hx rfl (pc0 := 57) (pc' := 63) rfl (hb hby d9_57) rfl (feq (fun z => hc8 ((own_inj hb7 b2).mp z))).2 (by decide) (by decide) kk) ?_
            rw [if_neg (fun z => hc8 z.2)] at hP
            refine own_st (F' := T7.setTop (mkF m 64 #[.val (.ref a1), .val (.int (Int32.ofNat lo)), .val (.int (Int32.ofNat hi)), .val (.int (Int32.ofNat slot)), .val (.int (Int32.ofNat ((oTa S) slot)))] [(.int (Int32.ofNat slot))])) (fun t_ kk => XS.iloadN X7.here hx rfl (hb hby d9_63) rfl kk) ?_
            refine own_st (F' := T7.setTop (mkF m 65 #[.val (.ref a1), .val (.int (Int32.ofNat lo)), .val (.int (Int32.ofNat hi)), .val (.int (Int32.ofNat slot)), .val (.int (Int32.ofNat ((oTa S) slot)))] [(.int (1 : Int32)), (.int (Int32.ofNat slot))])) (fun t_ kk => XS.iconst X7.here hx rfl (hb hby d9_64) kk) ?_
            refine own_st (F' := T7.setTop (mkF m 66 #[.val (.ref a1), .val (.int (Int32.ofNat lo)), .val (.int (Int32.ofNat hi)), .val (.int (Int32.ofNat slot)), .val (.int (Int32.ofNat ((oTa S) slot)))] [(.int ((Int32.ofNat slot) + (1 : Int32)))])) (fun t_ kk => XS.iadd X7.here hx rfl (hb hby d9_65) rfl kk) ?_
            refine own_st (F' := T7.setTop (mkF m 67 #[.val (.ref a1), .val (.int (Int32.ofNat lo)), .val (.int (Int32.ofNat hi)), .val (.int (Int32.ofNat slot)), .val (.int (Int32.ofNat ((oTa S) slot)))] [(.ref a1), (.int ((Int32.ofNat slot) + (1 : Int32)))])) (fun t_ kk => XS.aloadN X7.here hx rfl (hb hby d9_66) rfl rfl kk) ?_
            obtain ⟨T9, X9, e9, st9⟩ := getF X7 hx hZ hown (host := "") (Or.inl (hw _ (List.mem_of_getElem? (i := 15) rfl))) Via.refl e7 f_table (g := (mkF m 67 #[.val (.ref a1), .val (.int (Int32.ofNat lo)), .val (.int (Int32.ofNat hi)), .val (.int (Int32.ofNat slot)), .val (.int (Int32.ofNat ((oTa S) slot)))] [(.ref a1), (.int ((Int32.ofNat slot) + (1 : Int32)))])) rfl rfl (hb hby d9_67)
            refine own_st (F' := T9.setTop (mkF m 70 #[.val (.ref a1), .val (.int (Int32.ofNat lo)), .val (.int (Int32.ofNat hi)), .val (.int (Int32.ofNat slot)), .val (.int (Int32.ofNat ((oTa S) slot)))] [(.ref bt), (.int ((Int32.ofNat slot) + (1 : Int32)))])) st9 ?_
            refine own_st (F' := T9.setTop (mkF m 71 #[.val (.ref a1), .val (.int (Int32.ofNat lo)), .val (.int (Int32.ofNat hi)), .val (.int (Int32.ofNat slot)), .val (.int (Int32.ofNat ((oTa S) slot)))] [(.int (32 : Int32)), (.int ((Int32.ofNat slot) + (1 : Int32)))])) (own_flen X9 hx hZ e9 V_t (hb hby d9_70)) ?_
            refine own_st (F' := T9.setTop (mkF m 72 #[.val (.ref a1), .val (.int (Int32.ofNat lo)), .val (.int (Int32.ofNat hi)), .val (.int (Int32.ofNat slot)), .val (.int (Int32.ofNat ((oTa S) slot)))] [(.int (1 : Int32)), (.int (32 : Int32)), (.int ((Int32.ofNat slot) + (1 : Int32)))])) (fun t_ kk => XS.iconst X9.here hx rfl (hb hby d9_71) kk) ?_
            refine own_st (F' := T9.setTop (mkF m 73 #[.val (.ref a1), .val (.int (Int32.ofNat lo)), .val (.int (Int32.ofNat hi)), .val (.int (Int32.ofNat slot)), .val (.int (Int32.ofNat ((oTa S) slot)))] [(.int (31 : Int32)), (.int ((Int32.ofNat slot) + (1 : Int32)))])) (fun t_ kk => XS.isub X9.here hx rfl (hb hby d9_72) rfl kk) ?_
            refine own_st (F' := T9.setTop (mkF m 74 #[.val (.ref a1), .val (.int (Int32.ofNat lo)), .val (.int (Int32.ofNat hi)), .val (.int (Int32.ofNat slot)), .val (.int (Int32.ofNat ((oTa S) slot)))] [(.int (((Int32.ofNat slot) + (1 : Int32)) &&& (31 : Int32)))])) (fun t_ kk => XS.iand X9.here hx rfl (hb hby d9_73) rfl kk) ?_
            rw [own_next ⟨slot, hslot⟩]
            show OWp p e below s _ _ _ (T9.setTop (mkF m 74 #[.val (.ref a1), .val (.int (Int32.ofNat lo)), .val (.int (Int32.ofNat hi)), .val (.int (Int32.ofNat slot)), .val (.int (Int32.ofNat ((oTa S) slot)))] [(.int (Int32.ofNat ((slot + 1) % 32)))]))
            refine own_st (F' := T9.setTop (mkF m 75 #[.val (.ref a1), .val (.int (Int32.ofNat lo)), .val (.int (Int32.ofNat hi)), .val (.int (Int32.ofNat ((slot + 1) % 32))), .val (.int (Int32.ofNat ((oTa S) slot)))] [])) (fun t_ kk => XS.istoreN X9.here hx rfl (hb hby d9_74) rfl (l' := #[.val (.ref a1), .val (.int (Int32.ofNat lo)), .val (.int (Int32.ofNat hi)), .val (.int (Int32.ofNat ((slot + 1) % 32))), .val (.int (Int32.ofNat ((oTa S) slot)))]) rfl kk) ?_
            refine own_st (F' := T9.setTop (mkF m 17 #[.val (.ref a1), .val (.int (Int32.ofNat lo)), .val (.int (Int32.ofNat hi)), .val (.int (Int32.ofNat ((slot + 1) % 32))), .val (.int (Int32.ofNat ((oTa S) slot)))] [])) (fun t_ kk => XS.goto X9.here hx rfl (pc0 := 75) (pc' := 17) rfl (hb hby d9_75) (by decide) (by decide) kk) ?_
            refine ih ((slot + 1) % 32) _ T9 _ X9 NN e9 (Or.inr ⟨_, rfl, rfl⟩) (Nat.mod_lt _ (by decide)) ?_ hP
            obtain ⟨dd, q1, q2⟩ := hfree
            cases dd with
            | zero => exact absurd hc3 (by rw [Nat.add_zero, Nat.mod_eq_of_lt hslot] at q2; exact q2)
            | succ dd =>
              have ez : ((slot + 1) % 32 + dd) % 32 = (slot + (dd + 1)) % 32 := by omega
              exact ⟨dd, by omega, by rw [ez]; exact q2⟩
        · -- pc 46: not oLo S (oTa S slot) = lo
          refine own_st (F' := T5.setTop (mkF m 63 #[.val (.ref a1), .val (.int (Int32.ofNat lo)), .val (.int (Int32.ofNat hi)), .val (.int (Int32.ofNat slot)), .val (.int (Int32.ofNat ((oTa S) slot)))] [])) (fun t_ kk => XS.icmpYes X5.here hx rfl (pc0 := 46) (pc' := 63) rfl (hb hby d9_46) rfl (feq (fun z => hc6 ((own_inj hb6 b1).mp z))).2 (by decide) (by decide) kk) ?_
          rw [if_neg (fun z => hc6 z.1)] at hP
          refine own_st (F' := T5.setTop (mkF m 64 #[.val (.ref a1), .val (.int (Int32.ofNat lo)), .val (.int (Int32.ofNat hi)), .val (.int (Int32.ofNat slot)), .val (.int (Int32.ofNat ((oTa S) slot)))] [(.int (Int32.ofNat slot))])) (fun t_ kk => XS.iloadN X5.here hx rfl (hb hby d9_63) rfl kk) ?_
          refine own_st (F' := T5.setTop (mkF m 65 #[.val (.ref a1), .val (.int (Int32.ofNat lo)), .val (.int (Int32.ofNat hi)), .val (.int (Int32.ofNat slot)), .val (.int (Int32.ofNat ((oTa S) slot)))] [(.int (1 : Int32)), (.int (Int32.ofNat slot))])) (fun t_ kk => XS.iconst X5.here hx rfl (hb hby d9_64) kk) ?_
          refine own_st (F' := T5.setTop (mkF m 66 #[.val (.ref a1), .val (.int (Int32.ofNat lo)), .val (.int (Int32.ofNat hi)), .val (.int (Int32.ofNat slot)), .val (.int (Int32.ofNat ((oTa S) slot)))] [(.int ((Int32.ofNat slot) + (1 : Int32)))])) (fun t_ kk => XS.iadd X5.here hx rfl (hb hby d9_65) rfl kk) ?_
          refine own_st (F' := T5.setTop (mkF m 67 #[.val (.ref a1), .val (.int (Int32.ofNat lo)), .val (.int (Int32.ofNat hi)), .val (.int (Int32.ofNat slot)), .val (.int (Int32.ofNat ((oTa S) slot)))] [(.ref a1), (.int ((Int32.ofNat slot) + (1 : Int32)))])) (fun t_ kk => XS.aloadN X5.here hx rfl (hb hby d9_66) rfl rfl kk) ?_
          obtain ⟨T10, X10, e10, st10⟩ := getF X5 hx hZ hown (host := "") (Or.inl (hw _ (List.mem_of_getElem? (i := 15) rfl))) Via.refl e5 f_table (g := (mkF m 67 #[.val (.ref a1), .val (.int (Int32.ofNat lo)), .val (.int (Int32.ofNat hi)), .val (.int (Int32.ofNat slot)), .val (.int (Int32.ofNat ((oTa S) slot)))] [(.ref a1), (.int ((Int32.ofNat slot) + (1 : Int32)))])) rfl rfl (hb hby d9_67)
          refine own_st (F' := T10.setTop (mkF m 70 #[.val (.ref a1), .val (.int (Int32.ofNat lo)), .val (.int (Int32.ofNat hi)), .val (.int (Int32.ofNat slot)), .val (.int (Int32.ofNat ((oTa S) slot)))] [(.ref bt), (.int ((Int32.ofNat slot) + (1 : Int32)))])) st10 ?_
          refine own_st (F' := T10.setTop (mkF m 71 #[.val (.ref a1), .val (.int (Int32.ofNat lo)), .val (.int (Int32.ofNat hi)), .val (.int (Int32.ofNat slot)), .val (.int (Int32.ofNat ((oTa S) slot)))] [(.int (32 : Int32)), (.int ((Int32.ofNat slot) + (1 : Int32)))])) (own_flen X10 hx hZ e10 V_t (hb hby d9_70)) ?_
          refine own_st (F' := T10.setTop (mkF m 72 #[.val (.ref a1), .val (.int (Int32.ofNat lo)), .val (.int (Int32.ofNat hi)), .val (.int (Int32.ofNat slot)), .val (.int (Int32.ofNat ((oTa S) slot)))] [(.int (1 : Int32)), (.int (32 : Int32)), (.int ((Int32.ofNat slot) + (1 : Int32)))])) (fun t_ kk => XS.iconst X10.here hx rfl (hb hby d9_71) kk) ?_
          refine own_st (F' := T10.setTop (mkF m 73 #[.val (.ref a1), .val (.int (Int32.ofNat lo)), .val (.int (Int32.ofNat hi)), .val (.int (Int32.ofNat slot)), .val (.int (Int32.ofNat ((oTa S) slot)))] [(.int (31 : Int32)), (.int ((Int32.ofNat slot) + (1 : Int32)))])) (fun t_ kk => XS.isub X10.here hx rfl (hb hby d9_72) rfl kk) ?_
          refine own_st (F' := T10.setTop (mkF m 74 #[.val (.ref a1), .val (.int (Int32.ofNat lo)), .val (.int (Int32.ofNat hi)), .val (.int (Int32.ofNat slot)), .val (.int (Int32.ofNat ((oTa S) slot)))] [(.int (((Int32.ofNat slot) + (1 : Int32)) &&& (31 : Int32)))])) (fun t_ kk => XS.iand X10.here hx rfl (hb hby d9_73) rfl kk) ?_
          rw [own_next ⟨slot, hslot⟩]
          show OWp p e below s _ _ _ (T10.setTop (mkF m 74 #[.val (.ref a1), .val (.int (Int32.ofNat lo)), .val (.int (Int32.ofNat hi)), .val (.int (Int32.ofNat slot)), .val (.int (Int32.ofNat ((oTa S) slot)))] [(.int (Int32.ofNat ((slot + 1) % 32)))]))
          refine own_st (F' := T10.setTop (mkF m 75 #[.val (.ref a1), .val (.int (Int32.ofNat lo)), .val (.int (Int32.ofNat hi)), .val (.int (Int32.ofNat ((slot + 1) % 32))), .val (.int (Int32.ofNat ((oTa S) slot)))] [])) (fun t_ kk => XS.istoreN X10.here hx rfl (hb hby d9_74) rfl (l' := #[.val (.ref a1), .val (.int (Int32.ofNat lo)), .val (.int (Int32.ofNat hi)), .val (.int (Int32.ofNat ((slot + 1) % 32))), .val (.int (Int32.ofNat ((oTa S) slot)))]) rfl kk) ?_
          refine own_st (F' := T10.setTop (mkF m 17 #[.val (.ref a1), .val (.int (Int32.ofNat lo)), .val (.int (Int32.ofNat hi)), .val (.int (Int32.ofNat ((slot + 1) % 32))), .val (.int (Int32.ofNat ((oTa S) slot)))] [])) (fun t_ kk => XS.goto X10.here hx rfl (pc0 := 75) (pc' := 17) rfl (hb hby d9_75) (by decide) (by decide) kk) ?_
          refine ih ((slot + 1) % 32) _ T10 _ X10 NN e10 (Or.inr ⟨_, rfl, rfl⟩) (Nat.mod_lt _ (by decide)) ?_ hP
          obtain ⟨dd, q1, q2⟩ := hfree
          cases dd with
          | zero => exact absurd hc3 (by rw [Nat.add_zero, Nat.mod_eq_of_lt hslot] at q2; exact q2)
          | succ dd =>
            have ez : ((slot + 1) % 32 + dd) % 32 = (slot + (dd + 1)) % 32 := by omega
            exact ⟨dd, by omega, by rw [ez]; exact q2⟩
      · -- pc 27: not oSp S slot = oSt S
        refine own_st (F' := T2.setTop (mkF m 78 #[.val (.ref a1), .val (.int (Int32.ofNat lo)), .val (.int (Int32.ofNat hi)), .val (.int (Int32.ofNat slot)), s4] [])) (fun t_ kk => XS.icmpYes X2.here hx rfl (pc0 := 27) (pc' := 78) rfl (hb hby d9_27) rfl (feq (fun z => hc3 ((own_inj b5 b3).mp z))).2 (by decide) (by decide) kk) ?_
        refine own_st (F' := T2.setTop (mkF m 79 #[.val (.ref a1), .val (.int (Int32.ofNat lo)), .val (.int (Int32.ofNat hi)), .val (.int (Int32.ofNat slot)), s4] [(.ref a1)])) (fun t_ kk => XS.aloadN X2.here hx rfl (hb hby d9_78) rfl rfl kk) ?_
        obtain ⟨T11, X11, e11, st11⟩ := getF X2 hx hZ hown (host := "") (Or.inl (hw _ (List.mem_of_getElem? (i := 23) rfl))) Via.refl e2 f_count (g := (mkF m 79 #[.val (.ref a1), .val (.int (Int32.ofNat lo)), .val (.int (Int32.ofNat hi)), .val (.int (Int32.ofNat slot)), s4] [(.ref a1)])) rfl rfl (hb hby d9_79)
        refine own_st (F' := T11.setTop (mkF m 82 #[.val (.ref a1), .val (.int (Int32.ofNat lo)), .val (.int (Int32.ofNat hi)), .val (.int (Int32.ofNat slot)), s4] [(.int (Int32.ofNat (oCn S)))])) st11 ?_
        refine own_st (F' := T11.setTop (mkF m 83 #[.val (.ref a1), .val (.int (Int32.ofNat lo)), .val (.int (Int32.ofNat hi)), .val (.int (Int32.ofNat slot)), s4] [(.ref a1), (.int (Int32.ofNat (oCn S)))])) (fun t_ kk => XS.aloadN X11.here hx rfl (hb hby d9_82) rfl rfl kk) ?_
        obtain ⟨T12, X12, e12, st12⟩ := getF X11 hx hZ hown (host := "") (Or.inl (hw _ (List.mem_of_getElem? (i := 11) rfl))) Via.refl e11 f_lows (g := (mkF m 83 #[.val (.ref a1), .val (.int (Int32.ofNat lo)), .val (.int (Int32.ofNat hi)), .val (.int (Int32.ofNat slot)), s4] [(.ref a1), (.int (Int32.ofNat (oCn S)))])) rfl rfl (hb hby d9_83)
        refine own_st (F' := T12.setTop (mkF m 86 #[.val (.ref a1), .val (.int (Int32.ofNat lo)), .val (.int (Int32.ofNat hi)), .val (.int (Int32.ofNat slot)), s4] [(.ref bl), (.int (Int32.ofNat (oCn S)))])) st12 ?_
        refine own_st (F' := T12.setTop (mkF m 87 #[.val (.ref a1), .val (.int (Int32.ofNat lo)), .val (.int (Int32.ofNat hi)), .val (.int (Int32.ofNat slot)), s4] [(.int (16 : Int32)), (.int (Int32.ofNat (oCn S)))])) (own_flen X12 hx hZ e12 V_l (hb hby d9_86)) ?_
        refine own_st (F' := T12.setTop (mkF m 124 #[.val (.ref a1), .val (.int (Int32.ofNat lo)), .val (.int (Int32.ofNat hi)), .val (.int (Int32.ofNat slot)), s4] [])) (fun t_ kk => XS.icmpYes X12.here hx rfl (pc0 := 87) (pc' := 124) rfl (hb hby d9_87) rfl (feq (own_16 hc : ¬ ((Int32.ofNat (oCn S)) = (16 : Int32)))).2 (by decide) (by decide) kk) ?_
        refine own_st (F' := T12.setTop (mkF m 125 #[.val (.ref a1), .val (.int (Int32.ofNat lo)), .val (.int (Int32.ofNat hi)), .val (.int (Int32.ofNat slot)), s4] [(.ref a1)])) (fun t_ kk => XS.aloadN X12.here hx rfl (hb hby d9_124) rfl rfl kk) ?_
        refine own_st (F' := T12.setTop (mkF m 126 #[.val (.ref a1), .val (.int (Int32.ofNat lo)), .val (.int (Int32.ofNat hi)), .val (.int (Int32.ofNat slot)), s4] [(.ref a1), (.ref a1)])) (fun t_ kk => XS.dup X12.here hx rfl (hb hby d9_125) rfl rfl kk) ?_
        obtain ⟨T13, X13, e13, st13⟩ := getF X12 hx hZ hown (host := "") (Or.inl (hw _ (List.mem_of_getElem? (i := 23) rfl))) Via.refl e12 f_count (g := (mkF m 126 #[.val (.ref a1), .val (.int (Int32.ofNat lo)), .val (.int (Int32.ofNat hi)), .val (.int (Int32.ofNat slot)), s4] [(.ref a1), (.ref a1)])) rfl rfl (hb hby d9_126)
        refine own_st (F' := T13.setTop (mkF m 129 #[.val (.ref a1), .val (.int (Int32.ofNat lo)), .val (.int (Int32.ofNat hi)), .val (.int (Int32.ofNat slot)), s4] [(.int (Int32.ofNat (oCn S))), (.ref a1)])) st13 ?_
        refine own_st (F' := T13.setTop (mkF m 130 #[.val (.ref a1), .val (.int (Int32.ofNat lo)), .val (.int (Int32.ofNat hi)), .val (.int (Int32.ofNat slot)), s4] [(.int (Int32.ofNat (oCn S))), (.ref a1), (.int (Int32.ofNat (oCn S)))])) (fun t_ kk => XS.dupX1 X13.here hx rfl (hb hby d9_129) rfl rfl rfl kk) ?_
        refine own_st (F' := T13.setTop (mkF m 131 #[.val (.ref a1), .val (.int (Int32.ofNat lo)), .val (.int (Int32.ofNat hi)), .val (.int (Int32.ofNat slot)), s4] [(.int (1 : Int32)), (.int (Int32.ofNat (oCn S))), (.ref a1), (.int (Int32.ofNat (oCn S)))])) (fun t_ kk => XS.iconst X13.here hx rfl (hb hby d9_130) kk) ?_
        refine own_st (F' := T13.setTop (mkF m 132 #[.val (.ref a1), .val (.int (Int32.ofNat lo)), .val (.int (Int32.ofNat hi)), .val (.int (Int32.ofNat slot)), s4] [(.int ((Int32.ofNat (oCn S)) + (1 : Int32))), (.ref a1), (.int (Int32.ofNat (oCn S)))])) (fun t_ kk => XS.iadd X13.here hx rfl (hb hby d9_131) rfl kk) ?_
        rw [own_add1]
        show OWp p e below s _ _ _ (T13.setTop (mkF m 132 #[.val (.ref a1), .val (.int (Int32.ofNat lo)), .val (.int (Int32.ofNat hi)), .val (.int (Int32.ofNat slot)), s4] [(.int (Int32.ofNat ((oCn S) + 1))), (.ref a1), (.int (Int32.ofNat (oCn S)))]))
        obtain ⟨T14, h14, X14, e14, W14, st14⟩ := putF X13 hx hZ hown (host := "") (Or.inl (hw _ (List.mem_of_getElem? (i := 23) rfl))) Via.refl e13 f_count E_a (Or.inl (hw _ (List.mem_of_getElem? (i := 24) rfl))) (hw _ (List.mem_of_getElem? (i := 2) rfl)) (ty := .int) (by decide) rfl rfl (g := (mkF m 132 #[.val (.ref a1), .val (.int (Int32.ofNat lo)), .val (.int (Int32.ofNat hi)), .val (.int (Int32.ofNat slot)), s4] [(.int (Int32.ofNat ((oCn S) + 1))), (.ref a1), (.int (Int32.ofNat (oCn S)))])) rfl rfl (hb hby d9_132)
        have f15 := E_a.wr W14
        have f16 := f_depth.other W14 (Or.inr (slot_ne (Or.inr (hw _ (List.mem_of_getElem? (i := 22) rfl))) (Or.inl (hw _ (List.mem_of_getElem? (i := 24) rfl))) (by decide) (t := .int) (t' := .int) (by decide) (by decide)))
        have f17 := f_lows.other W14 (Or.inr (slot_ne (Or.inl (hw _ (List.mem_of_getElem? (i := 12) rfl))) (Or.inl (hw _ (List.mem_of_getElem? (i := 24) rfl))) (by decide) (t := (.array .int)) (t' := .int) (by decide) (by decide)))
        have f18 := f_highs.other W14 (Or.inr (slot_ne (Or.inl (hw _ (List.mem_of_getElem? (i := 14) rfl))) (Or.inl (hw _ (List.mem_of_getElem? (i := 24) rfl))) (by decide) (t := (.array .int)) (t' := .int) (by decide) (by decide)))
        have f19 := f_table.other W14 (Or.inr (slot_ne (Or.inl (hw _ (List.mem_of_getElem? (i := 16) rfl))) (Or.inl (hw _ (List.mem_of_getElem? (i := 24) rfl))) (by decide) (t := (.array .int)) (t' := .int) (by decide) (by decide)))
        have f20 := f_stamps.other W14 (Or.inr (slot_ne (Or.inl (hw _ (List.mem_of_getElem? (i := 18) rfl))) (Or.inl (hw _ (List.mem_of_getElem? (i := 24) rfl))) (by decide) (t := (.array .int)) (t' := .int) (by decide) (by decide)))
        have f21 := f_count.same W14
        have f22 := f_stamp.other W14 (Or.inr (slot_ne (Or.inl (hw _ (List.mem_of_getElem? (i := 20) rfl))) (Or.inl (hw _ (List.mem_of_getElem? (i := 24) rfl))) (by decide) (t := .int) (t' := .int) (by decide) (by decide)))
        have f23 := V_l.other W14 (Ne.symm ne_a1_bl)
        have f24 := V_h.other W14 (Ne.symm ne_a1_bh)
        have f25 := V_t.other W14 (Ne.symm ne_a1_bt)
        have f26 := V_s.other W14 (Ne.symm ne_a1_bs)
        have K27 := Keep.wr (Keep.refl h0 [a1, bl, bh, bt, bs]) W14 (Or.inl (List.mem_of_getElem? (i := 0) rfl))
        have Z28 := Nat.le_trans Z0 (Keep.of_wr W14).1
        have N29 := Fr.snoc X14 NN hg.1
        refine own_st (F' := T14.setTop (mkF m 135 #[.val (.ref a1), .val (.int (Int32.ofNat lo)), .val (.int (Int32.ofNat hi)), .val (.int (Int32.ofNat slot)), s4] [(.int (Int32.ofNat (oCn S)))])) st14 ?_
        refine own_st (F' := T14.setTop (mkF m 137 #[.val (.ref a1), .val (.int (Int32.ofNat lo)), .val (.int (Int32.ofNat hi)), .val (.int (Int32.ofNat slot)), .val (.int (Int32.ofNat (oCn S)))] [])) (fun t_ kk => XS.istoreS X14.here hx rfl (hb hby d9_135) rfl rfl hs4 kk) ?_
        refine own_st (F' := T14.setTop (mkF m 138 #[.val (.ref a1), .val (.int (Int32.ofNat lo)), .val (.int (Int32.ofNat hi)), .val (.int (Int32.ofNat slot)), .val (.int (Int32.ofNat (oCn S)))] [(.ref a1)])) (fun t_ kk => XS.aloadN X14.here hx rfl (hb hby d9_137) rfl rfl kk) ?_
        obtain ⟨T30, X30, e30, st30⟩ := getF X14 hx hZ hown (host := "") (Or.inl (hw _ (List.mem_of_getElem? (i := 11) rfl))) Via.refl e14 f17 (g := (mkF m 138 #[.val (.ref a1), .val (.int (Int32.ofNat lo)), .val (.int (Int32.ofNat hi)), .val (.int (Int32.ofNat slot)), .val (.int (Int32.ofNat (oCn S)))] [(.ref a1)])) rfl rfl (hb hby d9_138)
        refine own_st (F' := T30.setTop (mkF m 141 #[.val (.ref a1), .val (.int (Int32.ofNat lo)), .val (.int (Int32.ofNat hi)), .val (.int (Int32.ofNat slot)), .val (.int (Int32.ofNat (oCn S)))] [(.ref bl)])) st30 ?_
        refine own_st (F' := T30.setTop (mkF m 143 #[.val (.ref a1), .val (.int (Int32.ofNat lo)), .val (.int (Int32.ofNat hi)), .val (.int (Int32.ofNat slot)), .val (.int (Int32.ofNat (oCn S)))] [(.int (Int32.ofNat (oCn S))), (.ref bl)])) (fun t_ kk => XS.iload X30.here hx rfl (hb hby d9_141) rfl kk) ?_
        refine own_st (F' := T30.setTop (mkF m 144 #[.val (.ref a1), .val (.int (Int32.ofNat lo)), .val (.int (Int32.ofNat hi)), .val (.int (Int32.ofNat slot)), .val (.int (Int32.ofNat (oCn S)))] [(.int (Int32.ofNat lo)), (.int (Int32.ofNat (oCn S))), (.ref bl)])) (fun t_ kk => XS.iloadN X30.here hx rfl (hb hby d9_143) rfl kk) ?_
        obtain ⟨T31, h31, sl31, X31, e31, W31, A31, st31⟩ := own_fst X30 hx hZ e30 f23 (i := (oCn S)) (x := lo) (show oCn S < 16 by omega) (by omega) (pc := 144) (Ls := #[.val (.ref a1), .val (.int (Int32.ofNat lo)), .val (.int (Int32.ofNat hi)), .val (.int (Int32.ofNat slot)), .val (.int (Int32.ofNat (oCn S)))]) (rest := []) (hb hby d9_144)
        have f32 := f15.wr W31
        have f33 := f16.other W31 (Or.inl ne_a1_bl)
        have f34 := f17.other W31 (Or.inl ne_a1_bl)
        have f35 := f18.other W31 (Or.inl ne_a1_bl)
        have f36 := f19.other W31 (Or.inl ne_a1_bl)
        have f37 := f20.other W31 (Or.inl ne_a1_bl)
        have f38 := f21.other W31 (Or.inl ne_a1_bl)
        have f39 := f22.other W31 (Or.inl ne_a1_bl)
        have f41 := f24.other W31 (Ne.symm ne_bl_bh)
        have f42 := f25.other W31 (Ne.symm ne_bl_bt)
        have f43 := f26.other W31 (Ne.symm ne_bl_bs)
        have K44 := Keep.wr K27 W31 (Or.inl (List.mem_of_getElem? (i := 1) rfl))
        have Z45 := Nat.le_trans Z28 (Keep.of_wr W31).1
        have N46 := Fr.snoc X31 N29 hg.2.1
        refine own_st (F' := T31.setTop (mkF m 145 #[.val (.ref a1), .val (.int (Int32.ofNat lo)), .val (.int (Int32.ofNat hi)), .val (.int (Int32.ofNat slot)), .val (.int (Int32.ofNat (oCn S)))] [])) st31 ?_
        refine own_st (F' := T31.setTop (mkF m 146 #[.val (.ref a1), .val (.int (Int32.ofNat lo)), .val (.int (Int32.ofNat hi)), .val (.int (Int32.ofNat slot)), .val (.int (Int32.ofNat (oCn S)))] [(.ref a1)])) (fun t_ kk => XS.aloadN X31.here hx rfl (hb hby d9_145) rfl rfl kk) ?_
        obtain ⟨T47, X47, e47, st47⟩ := getF X31 hx hZ hown (host := "") (Or.inl (hw _ (List.mem_of_getElem? (i := 13) rfl))) Via.refl e31 f35 (g := (mkF m 146 #[.val (.ref a1), .val (.int (Int32.ofNat lo)), .val (.int (Int32.ofNat hi)), .val (.int (Int32.ofNat slot)), .val (.int (Int32.ofNat (oCn S)))] [(.ref a1)])) rfl rfl (hb hby d9_146)
        refine own_st (F' := T47.setTop (mkF m 149 #[.val (.ref a1), .val (.int (Int32.ofNat lo)), .val (.int (Int32.ofNat hi)), .val (.int (Int32.ofNat slot)), .val (.int (Int32.ofNat (oCn S)))] [(.ref bh)])) st47 ?_
        refine own_st (F' := T47.setTop (mkF m 151 #[.val (.ref a1), .val (.int (Int32.ofNat lo)), .val (.int (Int32.ofNat hi)), .val (.int (Int32.ofNat slot)), .val (.int (Int32.ofNat (oCn S)))] [(.int (Int32.ofNat (oCn S))), (.ref bh)])) (fun t_ kk => XS.iload X47.here hx rfl (hb hby d9_149) rfl kk) ?_
        refine own_st (F' := T47.setTop (mkF m 152 #[.val (.ref a1), .val (.int (Int32.ofNat lo)), .val (.int (Int32.ofNat hi)), .val (.int (Int32.ofNat slot)), .val (.int (Int32.ofNat (oCn S)))] [(.int (Int32.ofNat hi)), (.int (Int32.ofNat (oCn S))), (.ref bh)])) (fun t_ kk => XS.iloadN X47.here hx rfl (hb hby d9_151) rfl kk) ?_
        obtain ⟨T48, h48, sl48, X48, e48, W48, A48, st48⟩ := own_fst X47 hx hZ e47 f41 (i := (oCn S)) (x := hi) (show oCn S < 16 by omega) (by omega) (pc := 152) (Ls := #[.val (.ref a1), .val (.int (Int32.ofNat lo)), .val (.int (Int32.ofNat hi)), .val (.int (Int32.ofNat slot)), .val (.int (Int32.ofNat (oCn S)))]) (rest := []) (hb hby d9_152)
        have f49 := f32.wr W48
        have f50 := f33.other W48 (Or.inl ne_a1_bh)
        have f51 := f34.other W48 (Or.inl ne_a1_bh)
        have f52 := f35.other W48 (Or.inl ne_a1_bh)
        have f53 := f36.other W48 (Or.inl ne_a1_bh)
        have f54 := f37.other W48 (Or.inl ne_a1_bh)
        have f55 := f38.other W48 (Or.inl ne_a1_bh)
        have f56 := f39.other W48 (Or.inl ne_a1_bh)
        have f57 := A31.other W48 ne_bl_bh
        have f59 := f42.other W48 (Ne.symm ne_bh_bt)
        have f60 := f43.other W48 (Ne.symm ne_bh_bs)
        have K61 := Keep.wr K44 W48 (Or.inl (List.mem_of_getElem? (i := 2) rfl))
        have Z62 := Nat.le_trans Z45 (Keep.of_wr W48).1
        have N63 := Fr.snoc X48 N46 hg.2.2.1
        refine own_st (F' := T48.setTop (mkF m 153 #[.val (.ref a1), .val (.int (Int32.ofNat lo)), .val (.int (Int32.ofNat hi)), .val (.int (Int32.ofNat slot)), .val (.int (Int32.ofNat (oCn S)))] [])) st48 ?_
        refine own_st (F' := T48.setTop (mkF m 154 #[.val (.ref a1), .val (.int (Int32.ofNat lo)), .val (.int (Int32.ofNat hi)), .val (.int (Int32.ofNat slot)), .val (.int (Int32.ofNat (oCn S)))] [(.int (2 : Int32))])) (fun t_ kk => XS.iconst X48.here hx rfl (hb hby d9_153) kk) ?_
        refine own_st (F' := T48.setTop (mkF m 155 #[.val (.ref a1), .val (.int (Int32.ofNat lo)), .val (.int (Int32.ofNat hi)), .val (.int (Int32.ofNat slot)), .val (.int (Int32.ofNat (oCn S)))] [(.ref a1), (.int (2 : Int32))])) (fun t_ kk => XS.aloadN X48.here hx rfl (hb hby d9_154) rfl rfl kk) ?_
        obtain ⟨T64, X64, e64, st64⟩ := getF X48 hx hZ hown (host := "") (Or.inl (hw _ (List.mem_of_getElem? (i := 23) rfl))) Via.refl e48 f55 (g := (mkF m 155 #[.val (.ref a1), .val (.int (Int32.ofNat lo)), .val (.int (Int32.ofNat hi)), .val (.int (Int32.ofNat slot)), .val (.int (Int32.ofNat (oCn S)))] [(.ref a1), (.int (2 : Int32))])) rfl rfl (hb hby d9_155)
        refine own_st (F' := T64.setTop (mkF m 158 #[.val (.ref a1), .val (.int (Int32.ofNat lo)), .val (.int (Int32.ofNat hi)), .val (.int (Int32.ofNat slot)), .val (.int (Int32.ofNat (oCn S)))] [(.int (Int32.ofNat ((oCn S) + 1))), (.int (2 : Int32))])) st64 ?_
        refine own_st (F' := T64.setTop (mkF m 159 #[.val (.ref a1), .val (.int (Int32.ofNat lo)), .val (.int (Int32.ofNat hi)), .val (.int (Int32.ofNat slot)), .val (.int (Int32.ofNat (oCn S)))] [(.int ((2 : Int32) * (Int32.ofNat ((oCn S) + 1))))])) (fun t_ kk => XS.imul X64.here hx rfl (hb hby d9_158) rfl kk) ?_
        refine own_st (F' := T64.setTop (mkF m 160 #[.val (.ref a1), .val (.int (Int32.ofNat lo)), .val (.int (Int32.ofNat hi)), .val (.int (Int32.ofNat slot)), .val (.int (Int32.ofNat (oCn S)))] [(.ref a1), (.int ((2 : Int32) * (Int32.ofNat ((oCn S) + 1))))])) (fun t_ kk => XS.aloadN X64.here hx rfl (hb hby d9_159) rfl rfl kk) ?_
        obtain ⟨T65, X65, e65, st65⟩ := getF X64 hx hZ hown (host := "") (Or.inl (hw _ (List.mem_of_getElem? (i := 15) rfl))) Via.refl e64 f53 (g := (mkF m 160 #[.val (.ref a1), .val (.int (Int32.ofNat lo)), .val (.int (Int32.ofNat hi)), .val (.int (Int32.ofNat slot)), .val (.int (Int32.ofNat (oCn S)))] [(.ref a1), (.int ((2 : Int32) * (Int32.ofNat ((oCn S) + 1))))])) rfl rfl (hb hby d9_160)
        refine own_st (F' := T65.setTop (mkF m 163 #[.val (.ref a1), .val (.int (Int32.ofNat lo)), .val (.int (Int32.ofNat hi)), .val (.int (Int32.ofNat slot)), .val (.int (Int32.ofNat (oCn S)))] [(.ref bt), (.int ((2 : Int32) * (Int32.ofNat ((oCn S) + 1))))])) st65 ?_
        refine own_st (F' := T65.setTop (mkF m 164 #[.val (.ref a1), .val (.int (Int32.ofNat lo)), .val (.int (Int32.ofNat hi)), .val (.int (Int32.ofNat slot)), .val (.int (Int32.ofNat (oCn S)))] [(.int (32 : Int32)), (.int ((2 : Int32) * (Int32.ofNat ((oCn S) + 1))))])) (own_flen X65 hx hZ e65 f59 (hb hby d9_163)) ?_
        refine own_st (F' := T65.setTop (mkF m 174 #[.val (.ref a1), .val (.int (Int32.ofNat lo)), .val (.int (Int32.ofNat hi)), .val (.int (Int32.ofNat slot)), .val (.int (Int32.ofNat (oCn S)))] [])) (fun t_ kk => XS.icmpYes X65.here hx rfl (pc0 := 164) (pc' := 174) rfl (hb hby d9_164) rfl (flt (own_twice ⟨oCn S + 1, by omega⟩ : ¬ ((32 : Int32) < ((2 : Int32) * (Int32.ofNat ((oCn S) + 1)))))).2.2.2 (by decide) (by decide) kk) ?_
        refine own_st (F' := T65.setTop (mkF m 175 #[.val (.ref a1), .val (.int (Int32.ofNat lo)), .val (.int (Int32.ofNat hi)), .val (.int (Int32.ofNat slot)), .val (.int (Int32.ofNat (oCn S)))] [(.ref a1)])) (fun t_ kk => XS.aloadN X65.here hx rfl (hb hby d9_174) rfl rfl kk) ?_
        obtain ⟨T66, X66, e66, st66⟩ := getF X65 hx hZ hown (host := "") (Or.inl (hw _ (List.mem_of_getElem? (i := 15) rfl))) Via.refl e65 f53 (g := (mkF m 175 #[.val (.ref a1), .val (.int (Int32.ofNat lo)), .val (.int (Int32.ofNat hi)), .val (.int (Int32.ofNat slot)), .val (.int (Int32.ofNat (oCn S)))] [(.ref a1)])) rfl rfl (hb hby d9_175)
        refine own_st (F' := T66.setTop (mkF m 178 #[.val (.ref a1), .val (.int (Int32.ofNat lo)), .val (.int (Int32.ofNat hi)), .val (.int (Int32.ofNat slot)), .val (.int (Int32.ofNat (oCn S)))] [(.ref bt)])) st66 ?_
        refine own_st (F' := T66.setTop (mkF m 179 #[.val (.ref a1), .val (.int (Int32.ofNat lo)), .val (.int (Int32.ofNat hi)), .val (.int (Int32.ofNat slot)), .val (.int (Int32.ofNat (oCn S)))] [(.int (Int32.ofNat slot)), (.ref bt)])) (fun t_ kk => XS.iloadN X66.here hx rfl (hb hby d9_178) rfl kk) ?_
        refine own_st (F' := T66.setTop (mkF m 181 #[.val (.ref a1), .val (.int (Int32.ofNat lo)), .val (.int (Int32.ofNat hi)), .val (.int (Int32.ofNat slot)), .val (.int (Int32.ofNat (oCn S)))] [(.int (Int32.ofNat (oCn S))), (.int (Int32.ofNat slot)), (.ref bt)])) (fun t_ kk => XS.iload X66.here hx rfl (hb hby d9_179) rfl kk) ?_
        obtain ⟨T67, h67, sl67, X67, e67, W67, A67, st67⟩ := own_fst X66 hx hZ e66 f59 (i := slot) (x := (oCn S)) hslot (by omega) (pc := 181) (Ls := #[.val (.ref a1), .val (.int (Int32.ofNat lo)), .val (.int (Int32.ofNat hi)), .val (.int (Int32.ofNat slot)), .val (.int (Int32.ofNat (oCn S)))]) (rest := []) (hb hby d9_181)
        have f68 := f49.wr W67
        have f69 := f50.other W67 (Or.inl ne_a1_bt)
        have f70 := f51.other W67 (Or.inl ne_a1_bt)
        have f71 := f52.other W67 (Or.inl ne_a1_bt)
        have f72 := f53.other W67 (Or.inl ne_a1_bt)
        have f73 := f54.other W67 (Or.inl ne_a1_bt)
        have f74 := f55.other W67 (Or.inl ne_a1_bt)
        have f75 := f56.other W67 (Or.inl ne_a1_bt)
        have f76 := f57.other W67 ne_bl_bt
        have f77 := A48.other W67 ne_bh_bt
        have f79 := f60.other W67 (Ne.symm ne_bt_bs)
        have K80 := Keep.wr K61 W67 (Or.inl (List.mem_of_getElem? (i := 3) rfl))
        have Z81 := Nat.le_trans Z62 (Keep.of_wr W67).1
        have N82 := Fr.snoc X67 N63 hg.2.2.2.1
        refine own_st (F' := T67.setTop (mkF m 182 #[.val (.ref a1), .val (.int (Int32.ofNat lo)), .val (.int (Int32.ofNat hi)), .val (.int (Int32.ofNat slot)), .val (.int (Int32.ofNat (oCn S)))] [])) st67 ?_
        refine own_st (F' := T67.setTop (mkF m 183 #[.val (.ref a1), .val (.int (Int32.ofNat lo)), .val (.int (Int32.ofNat hi)), .val (.int (Int32.ofNat slot)), .val (.int (Int32.ofNat (oCn S)))] [(.ref a1)])) (fun t_ kk => XS.aloadN X67.here hx rfl (hb hby d9_182) rfl rfl kk) ?_
        obtain ⟨T83, X83, e83, st83⟩ := getF X67 hx hZ hown (host := "") (Or.inl (hw _ (List.mem_of_getElem? (i := 17) rfl))) Via.refl e67 f73 (g := (mkF m 183 #[.val (.ref a1), .val (.int (Int32.ofNat lo)), .val (.int (Int32.ofNat hi)), .val (.int (Int32.ofNat slot)), .val (.int (Int32.ofNat (oCn S)))] [(.ref a1)])) rfl rfl (hb hby d9_183)
        refine own_st (F' := T83.setTop (mkF m 186 #[.val (.ref a1), .val (.int (Int32.ofNat lo)), .val (.int (Int32.ofNat hi)), .val (.int (Int32.ofNat slot)), .val (.int (Int32.ofNat (oCn S)))] [(.ref bs)])) st83 ?_
        refine own_st (F' := T83.setTop (mkF m 187 #[.val (.ref a1), .val (.int (Int32.ofNat lo)), .val (.int (Int32.ofNat hi)), .val (.int (Int32.ofNat slot)), .val (.int (Int32.ofNat (oCn S)))] [(.int (Int32.ofNat slot)), (.ref bs)])) (fun t_ kk => XS.iloadN X83.here hx rfl (hb hby d9_186) rfl kk) ?_
        refine own_st (F' := T83.setTop (mkF m 188 #[.val (.ref a1), .val (.int (Int32.ofNat lo)), .val (.int (Int32.ofNat hi)), .val (.int (Int32.ofNat slot)), .val (.int (Int32.ofNat (oCn S)))] [(.ref a1), (.int (Int32.ofNat slot)), (.ref bs)])) (fun t_ kk => XS.aloadN X83.here hx rfl (hb hby d9_187) rfl rfl kk) ?_
        obtain ⟨T84, X84, e84, st84⟩ := getF X83 hx hZ hown (host := "") (Or.inl (hw _ (List.mem_of_getElem? (i := 19) rfl))) Via.refl e83 f75 (g := (mkF m 188 #[.val (.ref a1), .val (.int (Int32.ofNat lo)), .val (.int (Int32.ofNat hi)), .val (.int (Int32.ofNat slot)), .val (.int (Int32.ofNat (oCn S)))] [(.ref a1), (.int (Int32.ofNat slot)), (.ref bs)])) rfl rfl (hb hby d9_188)
        refine own_st (F' := T84.setTop (mkF m 191 #[.val (.ref a1), .val (.int (Int32.ofNat lo)), .val (.int (Int32.ofNat hi)), .val (.int (Int32.ofNat slot)), .val (.int (Int32.ofNat (oCn S)))] [(.int (Int32.ofNat (oSt S))), (.int (Int32.ofNat slot)), (.ref bs)])) st84 ?_
        obtain ⟨T85, h85, sl85, X85, e85, W85, A85, st85⟩ := own_fst X84 hx hZ e84 f79 (i := slot) (x := (oSt S)) hslot hst (pc := 191) (Ls := #[.val (.ref a1), .val (.int (Int32.ofNat lo)), .val (.int (Int32.ofNat hi)), .val (.int (Int32.ofNat slot)), .val (.int (Int32.ofNat (oCn S)))]) (rest := []) (hb hby d9_191)
        have f86 := f68.wr W85
        have f87 := f69.other W85 (Or.inl ne_a1_bs)
        have f88 := f70.other W85 (Or.inl ne_a1_bs)
        have f89 := f71.other W85 (Or.inl ne_a1_bs)
        have f90 := f72.other W85 (Or.inl ne_a1_bs)
        have f91 := f73.other W85 (Or.inl ne_a1_bs)
        have f92 := f74.other W85 (Or.inl ne_a1_bs)
        have f93 := f75.other W85 (Or.inl ne_a1_bs)
        have f94 := f76.other W85 ne_bl_bs
        have f95 := f77.other W85 ne_bh_bs
        have f96 := A67.other W85 ne_bt_bs
        have K98 := Keep.wr K80 W85 (Or.inl (List.mem_of_getElem? (i := 4) rfl))
        have Z99 := Nat.le_trans Z81 (Keep.of_wr W85).1
        have N100 := Fr.snoc X85 N82 hg.2.2.2.2
        refine own_st (F' := T85.setTop (mkF m 192 #[.val (.ref a1), .val (.int (Int32.ofNat lo)), .val (.int (Int32.ofNat hi)), .val (.int (Int32.ofNat slot)), .val (.int (Int32.ofNat (oCn S)))] [])) st85 ?_
        refine own_st (F' := T85.setTop (mkF m 194 #[.val (.ref a1), .val (.int (Int32.ofNat lo)), .val (.int (Int32.ofNat hi)), .val (.int (Int32.ofNat slot)), .val (.int (Int32.ofNat (oCn S)))] [(.int (Int32.ofNat (oCn S)))])) (fun t_ kk => XS.iload X85.here hx rfl (hb hby d9_192) rfl kk) ?_
        refine own_fin X85 (some (.int (Int32.ofNat (oCn S)))) (fun h => by rw [Bd.returns] at h; cases h) Bd.notSynchronized (by decide) (by decide) (fun fs hr => X85.ireturnOut hx (t := .int) Bd.returns rfl (Or.inl rfl) (hb hby d9_194) hr) ?_
        rw [e85]
        rw [if_neg hc3] at hP
        unfold Q9; rw [← hP]; exact ⟨rfl, N100, K98, ⟨f86, f87, f88, f89, f90, f91, f92, f93, f94, f95, f96, A85⟩⟩
  refine own_st (F' := s₁.setTop (mkF m 1 #[.val (.ref a1), .val (.int (Int32.ofNat lo)), .val (.int (Int32.ofNat hi)), .unset, .unset] [(.int (Int32.ofNat lo))])) (fun t_ kk => XS.iloadN X0.here hx rfl (hb hby d9_0) rfl kk) ?_
  by_cases hc101 : lo = 0
  · -- pc 1: lo = 0
    refine own_st (F' := s₁.setTop (mkF m 4 #[.val (.ref a1), .val (.int (Int32.ofNat lo)), .val (.int (Int32.ofNat hi)), .unset, .unset] [])) (fun t_ kk => XS.ifNo X0.here hx rfl (hb hby d9_1) rfl ((if0 _ _).trans (teq ((own_z b1).mpr hc101)).2) kk) ?_
    refine own_st (F' := s₁.setTop (mkF m 5 #[.val (.ref a1), .val (.int (Int32.ofNat lo)), .val (.int (Int32.ofNat hi)), .unset, .unset] [(.int (Int32.ofNat hi))])) (fun t_ kk => XS.iloadN X0.here hx rfl (hb hby d9_4) rfl kk) ?_
    by_cases hc102 : hi = 0
    · -- pc 5: hi = 0
      refine own_st (F' := s₁.setTop (mkF m 8 #[.val (.ref a1), .val (.int (Int32.ofNat lo)), .val (.int (Int32.ofNat hi)), .unset, .unset] [])) (fun t_ kk => XS.ifNo X0.here hx rfl (hb hby d9_5) rfl ((if0 _ _).trans (teq ((own_z b2).mpr hc102)).2) kk) ?_
      refine own_st (F' := s₁.setTop (mkF m 9 #[.val (.ref a1), .val (.int (Int32.ofNat lo)), .val (.int (Int32.ofNat hi)), .unset, .unset] [(.int (0 : Int32))])) (fun t_ kk => XS.iconst X0.here hx rfl (hb hby d9_8) kk) ?_
      refine own_fin X0 (some (.int (0 : Int32))) (fun h => by rw [Bd.returns] at h; cases h) Bd.notSynchronized (by decide) (by decide) (fun fs hr => X0.ireturnOut hx (t := .int) Bd.returns rfl (Or.inl rfl) (hb hby d9_9) hr) ?_
      rw [e0]
      have hJ : oJoin S lo hi = (S, 0) := by rw [oJoin, if_pos ⟨hc101, hc102⟩]
      unfold Q9; rw [hJ]; exact ⟨rfl, N0, (Keep.refl h0 [a1, bl, bh, bt, bs]), I_⟩
    · -- pc 5: not hi = 0
      refine own_st (F' := s₁.setTop (mkF m 10 #[.val (.ref a1), .val (.int (Int32.ofNat lo)), .val (.int (Int32.ofNat hi)), .unset, .unset] [])) (fun t_ kk => XS.ifYes X0.here hx rfl (pc0 := 5) (pc' := 10) rfl (hb hby d9_5) rfl ((if0 _ _).trans (feq (fun z => hc102 ((own_z b2).mp z))).2) (by decide) (by decide) kk) ?_
      refine own_st (F' := s₁.setTop (mkF m 11 #[.val (.ref a1), .val (.int (Int32.ofNat lo)), .val (.int (Int32.ofNat hi)), .unset, .unset] [(.ref a1)])) (fun t_ kk => XS.aloadN X0.here hx rfl (hb hby d9_10) rfl rfl kk) ?_
      refine own_st (F' := s₁.setTop (mkF m 12 #[.val (.ref a1), .val (.int (Int32.ofNat lo)), .val (.int (Int32.ofNat hi)), .unset, .unset] [(.int (Int32.ofNat lo)), (.ref a1)])) (fun t_ kk => XS.iloadN X0.here hx rfl (hb hby d9_11) rfl kk) ?_
      refine own_st (F' := s₁.setTop (mkF m 13 #[.val (.ref a1), .val (.int (Int32.ofNat lo)), .val (.int (Int32.ofNat hi)), .unset, .unset] [(.int (Int32.ofNat hi)), (.int (Int32.ofNat lo)), (.ref a1)])) (fun t_ kk => XS.iloadN X0.here hx rfl (hb hby d9_12) rfl kk) ?_
      refine own_priv X0 hx hZ (y := (⟨"com/example/slackline/slackline/planning/FileOrderSets", "slot", "(II)I"⟩ : MethodName)) hown (hw _ (List.mem_of_getElem? (i := 54) rfl)) (hw _ (List.mem_of_getElem? (i := 55) rfl)) (hw _ (List.mem_of_getElem? (i := 56) rfl)) (hw _ (List.mem_of_getElem? (i := 2) rfl)) (hw _ (List.mem_of_getElem? (i := 3) rfl)) (hw _ (List.mem_of_getElem? (i := 57) rfl)) E_a (rm10 l Z a0 hw [] a1 bl bh bt bs d S lo hi h0 n0 Z0 I_ (by omega) (by omega)) (by decide) (W := 0) (argsL := [(.int (Int32.ofNat lo)), (.int (Int32.ofNat hi))]) (rest := []) (by decide) (by decide) (by rw [hml]; rfl) (lenOf own_pd1 rfl) rfl rfl (Nat.le_of_eq rfl) (hb hby d9_13) e0 (by decide) (by decide) ?_
      intro v103 T103 L103 hQ103 X103
      obtain ⟨rfl, N103q, e103⟩ := hQ103
      have N103 := Fr.app N0 N103q
      show OWp p e below s _ _ _ (T103.setTop (mkF m 16 #[.val (.ref a1), .val (.int (Int32.ofNat lo)), .val (.int (Int32.ofNat hi)), .unset, .unset] [(.int (Int32.ofNat (oSlot lo hi)))]))
      refine own_st (F' := T103.setTop (mkF m 17 #[.val (.ref a1), .val (.int (Int32.ofNat lo)), .val (.int (Int32.ofNat hi)), .val (.int (Int32.ofNat (oSlot lo hi))), .unset] [])) (fun t_ kk => XS.istoreN X103.here hx rfl (hb hby d9_16) rfl (l' := #[.val (.ref a1), .val (.int (Int32.ofNat lo)), .val (.int (Int32.ofNat hi)), .val (.int (Int32.ofNat (oSlot lo hi))), .unset]) rfl kk) ?_
      have hlt := oSlot_lt (lo := lo) (hi := hi) (by omega) (by omega)
      exact loop 32 (oSlot lo hi) _ T103 _ X103 N103 e103 (Or.inl rfl) hlt (hI.free (by omega) _ hlt) (by rw [oJoin, if_neg (fun z => hc102 z.2)])
  · -- pc 1: not lo = 0
    refine own_st (F' := s₁.setTop (mkF m 10 #[.val (.ref a1), .val (.int (Int32.ofNat lo)), .val (.int (Int32.ofNat hi)), .unset, .unset] [])) (fun t_ kk => XS.ifYes X0.here hx rfl (pc0 := 1) (pc' := 10) rfl (hb hby d9_1) rfl ((if0 _ _).trans (feq (fun z => hc101 ((own_z b1).mp z))).2) (by decide) (by decide) kk) ?_
    refine own_st (F' := s₁.setTop (mkF m 11 #[.val (.ref a1), .val (.int (Int32.ofNat lo)), .val (.int (Int32.ofNat hi)), .unset, .unset] [(.ref a1)])) (fun t_ kk => XS.aloadN X0.here hx rfl (hb hby d9_10) rfl rfl kk) ?_
    refine own_st (F' := s₁.setTop (mkF m 12 #[.val (.ref a1), .val (.int (Int32.ofNat lo)), .val (.int (Int32.ofNat hi)), .unset, .unset] [(.int (Int32.ofNat lo)), (.ref a1)])) (fun t_ kk => XS.iloadN X0.here hx rfl (hb hby d9_11) rfl kk) ?_
    refine own_st (F' := s₁.setTop (mkF m 13 #[.val (.ref a1), .val (.int (Int32.ofNat lo)), .val (.int (Int32.ofNat hi)), .unset, .unset] [(.int (Int32.ofNat hi)), (.int (Int32.ofNat lo)), (.ref a1)])) (fun t_ kk => XS.iloadN X0.here hx rfl (hb hby d9_12) rfl kk) ?_
    refine own_priv X0 hx hZ (y := (⟨"com/example/slackline/slackline/planning/FileOrderSets", "slot", "(II)I"⟩ : MethodName)) hown (hw _ (List.mem_of_getElem? (i := 54) rfl)) (hw _ (List.mem_of_getElem? (i := 55) rfl)) (hw _ (List.mem_of_getElem? (i := 56) rfl)) (hw _ (List.mem_of_getElem? (i := 2) rfl)) (hw _ (List.mem_of_getElem? (i := 3) rfl)) (hw _ (List.mem_of_getElem? (i := 57) rfl)) E_a (rm10 l Z a0 hw [] a1 bl bh bt bs d S lo hi h0 n0 Z0 I_ (by omega) (by omega)) (by decide) (W := 0) (argsL := [(.int (Int32.ofNat lo)), (.int (Int32.ofNat hi))]) (rest := []) (by decide) (by decide) (by rw [hml]; rfl) (lenOf own_pd1 rfl) rfl rfl (Nat.le_of_eq rfl) (hb hby d9_13) e0 (by decide) (by decide) ?_
    intro v104 T104 L104 hQ104 X104
    obtain ⟨rfl, N104q, e104⟩ := hQ104
    have N104 := Fr.app N0 N104q
    show OWp p e below s _ _ _ (T104.setTop (mkF m 16 #[.val (.ref a1), .val (.int (Int32.ofNat lo)), .val (.int (Int32.ofNat hi)), .unset, .unset] [(.int (Int32.ofNat (oSlot lo hi)))]))
    refine own_st (F' := T104.setTop (mkF m 17 #[.val (.ref a1), .val (.int (Int32.ofNat lo)), .val (.int (Int32.ofNat hi)), .val (.int (Int32.ofNat (oSlot lo hi))), .unset] [])) (fun t_ kk => XS.istoreN X104.here hx rfl (hb hby d9_16) rfl (l' := #[.val (.ref a1), .val (.int (Int32.ofNat lo)), .val (.int (Int32.ofNat hi)), .val (.int (Int32.ofNat (oSlot lo hi))), .unset]) rfl kk) ?_
    have hlt := oSlot_lt (lo := lo) (hi := hi) (by omega) (by omega)
    exact loop 32 (oSlot lo hi) _ T104 _ X104 N104 e104 (Or.inl rfl) hlt (hI.free (by omega) _ hlt) (by rw [oJoin, if_neg (fun z => hc101 z.1)])
theorem d4_0 : decode prog_8_method_5_code 0 = .ok (.iload_n 3, 1) := by decide +kernel
theorem d4_1 : decode prog_8_method_5_code 1 = .ok (.ifCond .ne 9, 3) := by decide +kernel
theorem d4_4 : decode prog_8_method_5_code 4 = .ok (.iconst 1, 1) := by decide +kernel
theorem d4_5 : decode prog_8_method_5_code 5 = .ok (.istore 4, 2) := by decide +kernel
theorem d4_7 : decode prog_8_method_5_code 7 = .ok (.goto 62, 3) := by decide +kernel
theorem d4_10 : decode prog_8_method_5_code 10 = .ok (.iload_n 2, 1) := by decide +kernel
theorem d4_11 : decode prog_8_method_5_code 11 = .ok (.iload_n 3, 1) := by decide +kernel
theorem d4_12 : decode prog_8_method_5_code 12 = .ok (.invokestatic 40, 3) := by decide +kernel
theorem d4_15 : decode prog_8_method_5_code 15 = .ok (.ifCond .eq 30, 3) := by decide +kernel
theorem d4_18 : decode prog_8_method_5_code 18 = .ok (.aload_n 0, 1) := by decide +kernel
theorem d4_19 : decode prog_8_method_5_code 19 = .ok (.aload_n 0, 1) := by decide +kernel
theorem d4_20 : decode prog_8_method_5_code 20 = .ok (.aload_n 0, 1) := by decide +kernel
theorem d4_21 : decode prog_8_method_5_code 21 = .ok (.iload_n 1, 1) := by decide +kernel
theorem d4_22 : decode prog_8_method_5_code 22 = .ok (.invokevirtual 44, 3) := by decide +kernel
theorem d4_25 : decode prog_8_method_5_code 25 = .ok (.iload_n 2, 1) := by decide +kernel
theorem d4_26 : decode prog_8_method_5_code 26 = .ok (.iload_n 3, 1) := by decide +kernel
theorem d4_27 : decode prog_8_method_5_code 27 = .ok (.iconst 1, 1) := by decide +kernel
theorem d4_28 : decode prog_8_method_5_code 28 = .ok (.isub, 1) := by decide +kernel
theorem d4_29 : decode prog_8_method_5_code 29 = .ok (.invokevirtual 32, 3) := by decide +kernel
theorem d4_32 : decode prog_8_method_5_code 32 = .ok (.aload_n 0, 1) := by decide +kernel
theorem d4_33 : decode prog_8_method_5_code 33 = .ok (.iload_n 1, 1) := by decide +kernel
theorem d4_34 : decode prog_8_method_5_code 34 = .ok (.invokevirtual 48, 3) := by decide +kernel
theorem d4_37 : decode prog_8_method_5_code 37 = .ok (.invokevirtual 51, 3) := by decide +kernel
theorem d4_40 : decode prog_8_method_5_code 40 = .ok (.istore 4, 2) := by decide +kernel
theorem d4_42 : decode prog_8_method_5_code 42 = .ok (.goto 27, 3) := by decide +kernel
theorem d4_45 : decode prog_8_method_5_code 45 = .ok (.aload_n 0, 1) := by decide +kernel
theorem d4_46 : decode prog_8_method_5_code 46 = .ok (.aload_n 0, 1) := by decide +kernel
theorem d4_47 : decode prog_8_method_5_code 47 = .ok (.iload_n 1, 1) := by decide +kernel
theorem d4_48 : decode prog_8_method_5_code 48 = .ok (.invokevirtual 44, 3) := by decide +kernel
theorem d4_51 : decode prog_8_method_5_code 51 = .ok (.aload_n 0, 1) := by decide +kernel
theorem d4_52 : decode prog_8_method_5_code 52 = .ok (.aload_n 0, 1) := by decide +kernel
theorem d4_53 : decode prog_8_method_5_code 53 = .ok (.iload_n 1, 1) := by decide +kernel
theorem d4_54 : decode prog_8_method_5_code 54 = .ok (.invokevirtual 48, 3) := by decide +kernel
theorem d4_57 : decode prog_8_method_5_code 57 = .ok (.iload_n 2, 1) := by decide +kernel
theorem d4_58 : decode prog_8_method_5_code 58 = .ok (.iload_n 3, 1) := by decide +kernel
theorem d4_59 : decode prog_8_method_5_code 59 = .ok (.iconst 1, 1) := by decide +kernel
theorem d4_60 : decode prog_8_method_5_code 60 = .ok (.isub, 1) := by decide +kernel
theorem d4_61 : decode prog_8_method_5_code 61 = .ok (.invokevirtual 32, 3) := by decide +kernel
theorem d4_64 : decode prog_8_method_5_code 64 = .ok (.invokevirtual 51, 3) := by decide +kernel
theorem d4_67 : decode prog_8_method_5_code 67 = .ok (.istore 4, 2) := by decide +kernel
theorem d4_69 : decode prog_8_method_5_code 69 = .ok (.iload 4, 2) := by decide +kernel
theorem d4_71 : decode prog_8_method_5_code 71 = .ok (.ireturn, 1) := by decide +kernel
def Q4 (Z : State) (a1 bl bh bt bs : Addr) (d : Nat) (S : OSt) (x : Nat) (p2 : Int32) (n : Nat) (h0 : Heap) (n0 : Nat) (v : Option Value) (h : Heap) (L : List Loc) : Prop := v = some (.int (Int32.ofNat (oWith p2 n x S).2)) ∧ Fr n0 L ∧ Keep h0 h [a1, bl, bh, bt, bs] ∧ OFos Z h a1 bl bh bt bs d (oWith p2 n x S).1
theorem ef_4 (m : MethodId) (x0 : Addr) (x1 x2 x3 : Int32) : entryFrame m #[(.ref x0), (.int x1), (.int x2), (.int x3)] 5 = mkF m 0 #[.val (.ref x0), .val (.int x1), .val (.int x2), .val (.int x3), .unset] [] := by first | (simp [entryFrame, mkF, argsToLocals, Value.category]; done) | rfl
theorem pn_4 : plainName "com/example/slackline/slackline/planning/FileOrderSets" = true := by first | (simp [plainName, overriddenIn]; done) | decide +kernel
set_option maxRecDepth 65536 in
set_option maxHeartbeats 40000000 in
theorem rm4_0 (l : Launch) (Z : State) (a0 : Array Value) (hw : ∀ d ∈ tables_1, d.before a0 Z = true) (ws : List Jvm.Cond) (a1 bl bh bt bs : Addr) (d : Nat) (S : OSt) (x : Nat) (p2 : Int32) (h0 : Heap) (n0 : Nat) (Z0 : n0 ≤ h0.size) (I : OFos Z h0 a1 bl bh bt bs d S) (hg : n0 ≤ a1 ∧ n0 ≤ bl ∧ n0 ≤ bh ∧ n0 ≤ bt ∧ n0 ≤ bs) (hdis : ODis a1 bl bh bt bs) (hI : OInv S) (hc : oCn S + 0 ≤ 16) (hst : oSt S < 64) (hxc : x < oCn S) :
    MetFree l (⟨"com/example/slackline/slackline/planning/FileOrderSets", "with", "(III)I"⟩ : MethodName) (head1 (Jvm.Cond.code (⟨"com/example/slackline/slackline/planning/FileOrderSets", "with", "(III)I"⟩ : MethodName) prog_8_method_5_code 5 (some .int) :: ws) ({ frames := 0, cells := 0, slots := 0, locals := 0 } : Room)) (fun a U => a = #[(.ref a1), (.int (Int32.ofNat x)), (.int p2), (.int (0 : Int32))] ∧ Z.Warmed39 U.vm ∧ U.heap = h0) (fun _ _ _ _ _ => True) (fun _ U o U' => ∃ v L, o = .returned v ∧ Q4 Z a1 bl bh bt bs d S x p2 0 h0 n0 v U'.heap L ∧ FrameEnd U o U' L ({ frames := 0, cells := 0, slots := 0, locals := 0 } : Room).cells ({ frames := 0, cells := 0, slots := 0, locals := 0 } : Room).slots) := by
  refine MetFree.of_bodySF (plainFor_of_name pn_4) hisR ?_
  intro p e s m args below meth c s₁ Bd hml0 hP hK
  obtain ⟨rfl, hZ, hh⟩ := hP
  have hx := Bd.exec
  have hby := Bd.bytes
  have hml : c.maxLocals = 5 := hml0
  have hown : s.vm.findClass "com/example/slackline/slackline/planning/FileOrderSets" = some m.cls := findClass_of_methodNamed Bd.named
  have hnm := (name_of_methodNamed Bd.named Bd.method).1
  have X0 : Stand p l e ({ frames := 0, cells := 0, slots := 0, locals := 0 } : Room) s m #[(.ref a1), (.int (Int32.ofNat x)), (.int p2), (.int (0 : Int32))] below meth c s₁ [] 0 0 := Stand.of_body Bd
  have e0 : s₁.heap = h0 := by rw [← hh, Bd.state]; rfl
  have N0 := Fr.nil n0
  suffices hgoal : OWp p e below s ({ frames := 0, cells := 0, slots := 0, locals := 0 } : Room).cells ({ frames := 0, cells := 0, slots := 0, locals := 0 } : Room).slots (Q4 Z a1 bl bh bt bs d S x p2 0 h0 n0) (s₁.setTop (mkF m 0 #[.val (.ref a1), .val (.int (Int32.ofNat x)), .val (.int p2), .val (.int (0 : Int32)), .unset] [])) by
    rw [← ef_4] at hgoal; exact hgoal
  have I_ := I
  refine own_st (F' := s₁.setTop (mkF m 1 #[.val (.ref a1), .val (.int (Int32.ofNat x)), .val (.int p2), .val (.int (0 : Int32)), .unset] [(.int (0 : Int32))])) (fun t_ kk => XS.iloadN X0.here hx rfl (hb hby d4_0) rfl kk) ?_
  refine own_st (F' := s₁.setTop (mkF m 4 #[.val (.ref a1), .val (.int (Int32.ofNat x)), .val (.int p2), .val (.int (0 : Int32)), .unset] [])) (fun t_ kk => XS.ifNo X0.here hx rfl (hb hby d4_1) rfl ((if0 _ _).trans (teq (by decide : (0 : Int32) = (0 : Int32))).2) kk) ?_
  refine own_st (F' := s₁.setTop (mkF m 5 #[.val (.ref a1), .val (.int (Int32.ofNat x)), .val (.int p2), .val (.int (0 : Int32)), .unset] [(.int (1 : Int32))])) (fun t_ kk => XS.iconst X0.here hx rfl (hb hby d4_4) kk) ?_
  refine own_st (F' := s₁.setTop (mkF m 7 #[.val (.ref a1), .val (.int (Int32.ofNat x)), .val (.int p2), .val (.int (0 : Int32)), .val (.int (1 : Int32))] [])) (fun t_ kk => XS.istore X0.here hx rfl (hb hby d4_5) rfl (l' := #[.val (.ref a1), .val (.int (Int32.ofNat x)), .val (.int p2), .val (.int (0 : Int32)), .val (.int (1 : Int32))]) rfl kk) ?_
  refine own_st (F' := s₁.setTop (mkF m 69 #[.val (.ref a1), .val (.int (Int32.ofNat x)), .val (.int p2), .val (.int (0 : Int32)), .val (.int (1 : Int32))] [])) (fun t_ kk => XS.goto X0.here hx rfl (pc0 := 7) (pc' := 69) rfl (hb hby d4_7) (by decide) (by decide) kk) ?_
  refine own_st (F' := s₁.setTop (mkF m 71 #[.val (.ref a1), .val (.int (Int32.ofNat x)), .val (.int p2), .val (.int (0 : Int32)), .val (.int (1 : Int32))] [(.int (1 : Int32))])) (fun t_ kk => XS.iload X0.here hx rfl (hb hby d4_69) rfl kk) ?_
  refine own_fin X0 (some (.int (1 : Int32))) (fun h => by rw [Bd.returns] at h; cases h) Bd.notSynchronized (by decide) (by decide) (fun fs hr => X0.ireturnOut hx (t := .int) Bd.returns rfl (Or.inl rfl) (hb hby d4_71) hr) ?_
  rw [e0]
  exact ⟨rfl, N0, (Keep.refl h0 [a1, bl, bh, bt, bs]), I_⟩

set_option maxRecDepth 65536 in
set_option maxHeartbeats 40000000 in
theorem rm4_1 (l : Launch) (Z : State) (a0 : Array Value) (hw : ∀ d ∈ tables_1, d.before a0 Z = true) (ws : List Jvm.Cond) (a1 bl bh bt bs : Addr) (d : Nat) (S : OSt) (x : Nat) (p2 : Int32) (h0 : Heap) (n0 : Nat) (Z0 : n0 ≤ h0.size) (I : OFos Z h0 a1 bl bh bt bs d S) (hg : n0 ≤ a1 ∧ n0 ≤ bl ∧ n0 ≤ bh ∧ n0 ≤ bt ∧ n0 ≤ bs) (hdis : ODis a1 bl bh bt bs) (hI : OInv S) (hc : oCn S + 1 ≤ 16) (hst : oSt S < 64) (hxc : x < oCn S) :
    MetFree l (⟨"com/example/slackline/slackline/planning/FileOrderSets", "with", "(III)I"⟩ : MethodName) (head1 (Jvm.Cond.code (⟨"com/example/slackline/slackline/planning/FileOrderSets", "with", "(III)I"⟩ : MethodName) prog_8_method_5_code 5 (some .int) :: ws) ({ frames := 3, cells := 0, slots := 0, locals := 48 } : Room)) (fun a U => a = #[(.ref a1), (.int (Int32.ofNat x)), (.int p2), (.int (1 : Int32))] ∧ Z.Warmed39 U.vm ∧ U.heap = h0) (fun _ _ _ _ _ => True) (fun _ U o U' => ∃ v L, o = .returned v ∧ Q4 Z a1 bl bh bt bs d S x p2 1 h0 n0 v U'.heap L ∧ FrameEnd U o U' L ({ frames := 3, cells := 0, slots := 0, locals := 48 } : Room).cells ({ frames := 3, cells := 0, slots := 0, locals := 48 } : Room).slots) := by
  refine MetFree.of_bodySF (plainFor_of_name pn_4) hisR ?_
  intro p e s m args below meth c s₁ Bd hml0 hP hK
  obtain ⟨rfl, hZ, hh⟩ := hP
  have hx := Bd.exec
  have hby := Bd.bytes
  have hml : c.maxLocals = 5 := hml0
  have hown : s.vm.findClass "com/example/slackline/slackline/planning/FileOrderSets" = some m.cls := findClass_of_methodNamed Bd.named
  have hnm := (name_of_methodNamed Bd.named Bd.method).1
  have X0 : Stand p l e ({ frames := 3, cells := 0, slots := 0, locals := 48 } : Room) s m #[(.ref a1), (.int (Int32.ofNat x)), (.int p2), (.int (1 : Int32))] below meth c s₁ [] 0 0 := Stand.of_body Bd
  have e0 : s₁.heap = h0 := by rw [← hh, Bd.state]; rfl
  have N0 := Fr.nil n0
  suffices hgoal : OWp p e below s ({ frames := 3, cells := 0, slots := 0, locals := 48 } : Room).cells ({ frames := 3, cells := 0, slots := 0, locals := 48 } : Room).slots (Q4 Z a1 bl bh bt bs d S x p2 1 h0 n0) (s₁.setTop (mkF m 0 #[.val (.ref a1), .val (.int (Int32.ofNat x)), .val (.int p2), .val (.int (1 : Int32)), .unset] [])) by
    rw [← ef_4] at hgoal; exact hgoal
  have I_ := I
  refine own_st (F' := s₁.setTop (mkF m 1 #[.val (.ref a1), .val (.int (Int32.ofNat x)), .val (.int p2), .val (.int (1 : Int32)), .unset] [(.int (1 : Int32))])) (fun t_ kk => XS.iloadN X0.here hx rfl (hb hby d4_0) rfl kk) ?_
  refine own_st (F' := s₁.setTop (mkF m 10 #[.val (.ref a1), .val (.int (Int32.ofNat x)), .val (.int p2), .val (.int (1 : Int32)), .unset] [])) (fun t_ kk => XS.ifYes X0.here hx rfl (pc0 := 1) (pc' := 10) rfl (hb hby d4_1) rfl ((if0 _ _).trans (feq (by decide : ¬ ((1 : Int32) = (0 : Int32)))).2) (by decide) (by decide) kk) ?_
  refine own_st (F' := s₁.setTop (mkF m 11 #[.val (.ref a1), .val (.int (Int32.ofNat x)), .val (.int p2), .val (.int (1 : Int32)), .unset] [(.int p2)])) (fun t_ kk => XS.iloadN X0.here hx rfl (hb hby d4_10) rfl kk) ?_
  refine own_st (F' := s₁.setTop (mkF m 12 #[.val (.ref a1), .val (.int (Int32.ofNat x)), .val (.int p2), .val (.int (1 : Int32)), .unset] [(.int (1 : Int32)), (.int p2)])) (fun t_ kk => XS.iloadN X0.here hx rfl (hb hby d4_11) rfl kk) ?_
  refine own_callS X0 hx hZ (y := (⟨"com/example/slackline/slackline/planning/FileOrderSets", "inLow", "(II)Z"⟩ : MethodName)) hown (hw _ (List.mem_of_getElem? (i := 39) rfl)) (hw _ (List.mem_of_getElem? (i := 40) rfl)) (hw _ (List.mem_of_getElem? (i := 3) rfl)) (hw _ (List.mem_of_getElem? (i := 41) rfl)) (rm6 l Z a0 hw [] p2 (1 : Int32) h0 n0 Z0) (by decide) (W := 0) (argsL := [(.int p2), (.int (1 : Int32))]) (rest := []) (by decide) (by decide) (by rw [hml]; rfl) (lenOf own_pd2 rfl) rfl rfl (Nat.le_of_eq rfl) (hb hby d4_12) e0 (by decide) (by decide) ?_
  intro v1 T1 L1 hQ1 X1
  obtain ⟨rfl, N1q, e1⟩ := hQ1
  have N1 := Fr.app N0 N1q
  show OWp p e below s _ _ _ (T1.setTop (mkF m 15 #[.val (.ref a1), .val (.int (Int32.ofNat x)), .val (.int p2), .val (.int (1 : Int32)), .unset] [(.int (oBit p2 (1 : Int32)))]))
  by_cases hc2 : oIsLow p2 1 = false
  · -- pc 15: oIsLow p2 1 = false
    refine own_st (F' := T1.setTop (mkF m 45 #[.val (.ref a1), .val (.int (Int32.ofNat x)), .val (.int p2), .val (.int (1 : Int32)), .unset] [])) (fun t_ kk => XS.ifYes X1.here hx rfl (pc0 := 15) (pc' := 45) rfl (hb hby d4_15) rfl ((if0 _ _).trans (teq ((own_bit p2 1).mpr hc2)).1) (by decide) (by decide) kk) ?_
    refine own_st (F' := T1.setTop (mkF m 46 #[.val (.ref a1), .val (.int (Int32.ofNat x)), .val (.int p2), .val (.int (1 : Int32)), .unset] [(.ref a1)])) (fun t_ kk => XS.aloadN X1.here hx rfl (hb hby d4_45) rfl rfl kk) ?_
    refine own_st (F' := T1.setTop (mkF m 47 #[.val (.ref a1), .val (.int (Int32.ofNat x)), .val (.int p2), .val (.int (1 : Int32)), .unset] [(.ref a1), (.ref a1)])) (fun t_ kk => XS.aloadN X1.here hx rfl (hb hby d4_46) rfl rfl kk) ?_
    refine own_st (F' := T1.setTop (mkF m 48 #[.val (.ref a1), .val (.int (Int32.ofNat x)), .val (.int p2), .val (.int (1 : Int32)), .unset] [(.int (Int32.ofNat x)), (.ref a1), (.ref a1)])) (fun t_ kk => XS.iloadN X1.here hx rfl (hb hby d4_47) rfl kk) ?_
    refine own_priv X1 hx hZ (y := (⟨"com/example/slackline/slackline/planning/FileOrderSets", "low", "(I)I"⟩ : MethodName)) hown (hw _ (List.mem_of_getElem? (i := 42) rfl)) (hw _ (List.mem_of_getElem? (i := 43) rfl)) (hw _ (List.mem_of_getElem? (i := 44) rfl)) (hw _ (List.mem_of_getElem? (i := 2) rfl)) (hw _ (List.mem_of_getElem? (i := 3) rfl)) (hw _ (List.mem_of_getElem? (i := 45) rfl)) I_.1 (rm7 l Z a0 hw [] a1 bl bh bt bs d S x h0 n0 Z0 I_ (by omega)) (by decide) (W := 1) (argsL := [(.int (Int32.ofNat x))]) (rest := [(.ref a1)]) (by decide) (by decide) (by rw [hml]; rfl) (lenOf own_pd0 rfl) rfl rfl (Nat.le_of_eq rfl) (hb hby d4_48) e1 (by decide) (by decide) ?_
    intro v3 T3 L3 hQ3 X3
    obtain ⟨rfl, N3q, e3⟩ := hQ3
    have N3 := Fr.app N1 N3q
    show OWp p e below s _ _ _ (T3.setTop (mkF m 51 #[.val (.ref a1), .val (.int (Int32.ofNat x)), .val (.int p2), .val (.int (1 : Int32)), .unset] [(.int (Int32.ofNat (oLow S x))), (.ref a1)]))
    refine own_st (F' := T3.setTop (mkF m 52 #[.val (.ref a1), .val (.int (Int32.ofNat x)), .val (.int p2), .val (.int (1 : Int32)), .unset] [(.ref a1), (.int (Int32.ofNat (oLow S x))), (.ref a1)])) (fun t_ kk => XS.aloadN X3.here hx rfl (hb hby d4_51) rfl rfl kk) ?_
    refine own_st (F' := T3.setTop (mkF m 53 #[.val (.ref a1), .val (.int (Int32.ofNat x)), .val (.int p2), .val (.int (1 : Int32)), .unset] [(.ref a1), (.ref a1), (.int (Int32.ofNat (oLow S x))), (.ref a1)])) (fun t_ kk => XS.aloadN X3.here hx rfl (hb hby d4_52) rfl rfl kk) ?_
    refine own_st (F' := T3.setTop (mkF m 54 #[.val (.ref a1), .val (.int (Int32.ofNat x)), .val (.int p2), .val (.int (1 : Int32)), .unset] [(.int (Int32.ofNat x)), (.ref a1), (.ref a1), (.int (Int32.ofNat (oLow S x))), (.ref a1)])) (fun t_ kk => XS.iloadN X3.here hx rfl (hb hby d4_53) rfl kk) ?_
    refine own_priv X3 hx hZ (y := (⟨"com/example/slackline/slackline/planning/FileOrderSets", "high", "(I)I"⟩ : MethodName)) hown (hw _ (List.mem_of_getElem? (i := 46) rfl)) (hw _ (List.mem_of_getElem? (i := 47) rfl)) (hw _ (List.mem_of_getElem? (i := 48) rfl)) (hw _ (List.mem_of_getElem? (i := 2) rfl)) (hw _ (List.mem_of_getElem? (i := 3) rfl)) (hw _ (List.mem_of_getElem? (i := 49) rfl)) I_.1 (rm8 l Z a0 hw [] a1 bl bh bt bs d S x h0 n0 Z0 I_ (by omega)) (by decide) (W := 3) (argsL := [(.int (Int32.ofNat x))]) (rest := [(.ref a1), (.int (Int32.ofNat (oLow S x))), (.ref a1)]) (by decide) (by decide) (by rw [hml]; rfl) (lenOf own_pd0 rfl) rfl rfl (Nat.le_of_eq rfl) (hb hby d4_54) e3 (by decide) (by decide) ?_
    intro v4 T4 L4 hQ4 X4
    obtain ⟨rfl, N4q, e4⟩ := hQ4
    have N4 := Fr.app N3 N4q
    show OWp p e below s _ _ _ (T4.setTop (mkF m 57 #[.val (.ref a1), .val (.int (Int32.ofNat x)), .val (.int p2), .val (.int (1 : Int32)), .unset] [(.int (Int32.ofNat (oHigh S x))), (.ref a1), (.int (Int32.ofNat (oLow S x))), (.ref a1)]))
    refine own_st (F' := T4.setTop (mkF m 58 #[.val (.ref a1), .val (.int (Int32.ofNat x)), .val (.int p2), .val (.int (1 : Int32)), .unset] [(.int p2), (.int (Int32.ofNat (oHigh S x))), (.ref a1), (.int (Int32.ofNat (oLow S x))), (.ref a1)])) (fun t_ kk => XS.iloadN X4.here hx rfl (hb hby d4_57) rfl kk) ?_
    refine own_st (F' := T4.setTop (mkF m 59 #[.val (.ref a1), .val (.int (Int32.ofNat x)), .val (.int p2), .val (.int (1 : Int32)), .unset] [(.int (1 : Int32)), (.int p2), (.int (Int32.ofNat (oHigh S x))), (.ref a1), (.int (Int32.ofNat (oLow S x))), (.ref a1)])) (fun t_ kk => XS.iloadN X4.here hx rfl (hb hby d4_58) rfl kk) ?_
    refine own_st (F' := T4.setTop (mkF m 60 #[.val (.ref a1), .val (.int (Int32.ofNat x)), .val (.int p2), .val (.int (1 : Int32)), .unset] [(.int (1 : Int32)), (.int (1 : Int32)), (.int p2), (.int (Int32.ofNat (oHigh S x))), (.ref a1), (.int (Int32.ofNat (oLow S x))), (.ref a1)])) (fun t_ kk => XS.iconst X4.here hx rfl (hb hby d4_59) kk) ?_
    refine own_st (F' := T4.setTop (mkF m 61 #[.val (.ref a1), .val (.int (Int32.ofNat x)), .val (.int p2), .val (.int (1 : Int32)), .unset] [(.int (0 : Int32)), (.int p2), (.int (Int32.ofNat (oHigh S x))), (.ref a1), (.int (Int32.ofNat (oLow S x))), (.ref a1)])) (fun t_ kk => XS.isub X4.here hx rfl (hb hby d4_60) rfl kk) ?_
    have hlt1 := oHigh_lt hI hxc
    obtain ⟨ok1, ok2, ok3, ok4⟩ := oWith_ok p2 0 (oHigh S x) S hI (by omega) hlt1
    refine own_priv X4 hx hZ (y := (⟨"com/example/slackline/slackline/planning/FileOrderSets", "with", "(III)I"⟩ : MethodName)) hown (hw _ (List.mem_of_getElem? (i := 30) rfl)) (hw _ (List.mem_of_getElem? (i := 31) rfl)) (hw _ (List.mem_of_getElem? (i := 32) rfl)) (hw _ (List.mem_of_getElem? (i := 2) rfl)) (hw _ (List.mem_of_getElem? (i := 3) rfl)) (hw _ (List.mem_of_getElem? (i := 33) rfl)) I_.1 (rm4_0 l Z a0 hw [] a1 bl bh bt bs d S (oHigh S x) p2 h0 n0 Z0 I_ hg hdis hI (by omega) hst hlt1) (by decide) (W := 2) (argsL := [(.int (Int32.ofNat (oHigh S x))), (.int p2), (.int (0 : Int32))]) (rest := [(.int (Int32.ofNat (oLow S x))), (.ref a1)]) (by decide) (by decide) (by rw [hml]; rfl) (lenOf own_pd3 rfl) rfl rfl (Nat.le_of_eq rfl) (hb hby d4_61) e4 (by decide) (by decide) ?_
    intro v5 T5 L5 hQ5 X5
    obtain ⟨rfl, N5q, K5, I5⟩ := hQ5
    have N5 := Fr.app N4 N5q
    have Z5 := Nat.le_trans Z0 K5.1
    obtain ⟨h5, e5⟩ : ∃ z, T5.heap = z := ⟨_, rfl⟩
    rw [e5] at K5 I5 Z5
    show OWp p e below s _ _ _ (T5.setTop (mkF m 64 #[.val (.ref a1), .val (.int (Int32.ofNat x)), .val (.int p2), .val (.int (1 : Int32)), .unset] [(.int (Int32.ofNat (oWith p2 0 (oHigh S x) S).2)), (.int (Int32.ofNat (oLow S x))), (.ref a1)]))
    have hj1 : oLow S x < oCn (oWith p2 0 (oHigh S x) S).1 := Nat.lt_of_lt_of_le (oLow_lt hI hxc) ok3
    have hj2 := ok2
    have hst1 : oSt (oWith p2 0 (oHigh S x) S).1 < 64 := by rw [oWith_st]; exact hst
    refine own_priv X5 hx hZ (y := (⟨"com/example/slackline/slackline/planning/FileOrderSets", "join", "(II)I"⟩ : MethodName)) hown (hw _ (List.mem_of_getElem? (i := 50) rfl)) (hw _ (List.mem_of_getElem? (i := 51) rfl)) (hw _ (List.mem_of_getElem? (i := 52) rfl)) (hw _ (List.mem_of_getElem? (i := 2) rfl)) (hw _ (List.mem_of_getElem? (i := 3) rfl)) (hw _ (List.mem_of_getElem? (i := 53) rfl)) I5.1 (rm9 l Z a0 hw [] a1 bl bh bt bs d (oWith p2 0 (oHigh S x) S).1 (oLow S x) (oWith p2 0 (oHigh S x) S).2 h5 n0 Z5 I5 hg hdis ok1 (by omega) hst1 hj1 hj2) (by decide) (W := 0) (argsL := [(.int (Int32.ofNat (oLow S x))), (.int (Int32.ofNat (oWith p2 0 (oHigh S x) S).2))]) (rest := []) (by decide) (by decide) (by rw [hml]; rfl) (lenOf own_pd1 rfl) rfl rfl (Nat.le_of_eq rfl) (hb hby d4_64) e5 (by decide) (by decide) ?_
    intro v6 T6 L6 hQ6 X6
    obtain ⟨rfl, N6q, K6q, I6⟩ := hQ6
    have N6 := Fr.app N5 N6q
    have Z6 := Nat.le_trans Z5 K6q.1
    obtain ⟨h6, e6⟩ : ∃ z, T6.heap = z := ⟨_, rfl⟩
    rw [e6] at K6q I6 Z6
    have K6 := Keep.trans K5 K6q (fun y hy => Or.inl hy)
    show OWp p e below s _ _ _ (T6.setTop (mkF m 67 #[.val (.ref a1), .val (.int (Int32.ofNat x)), .val (.int p2), .val (.int (1 : Int32)), .unset] [(.int (Int32.ofNat (oJoin (oWith p2 0 (oHigh S x) S).1 (oLow S x) (oWith p2 0 (oHigh S x) S).2).2))]))
    refine own_st (F' := T6.setTop (mkF m 69 #[.val (.ref a1), .val (.int (Int32.ofNat x)), .val (.int p2), .val (.int (1 : Int32)), .val (.int (Int32.ofNat (oJoin (oWith p2 0 (oHigh S x) S).1 (oLow S x) (oWith p2 0 (oHigh S x) S).2).2))] [])) (fun t_ kk => XS.istore X6.here hx rfl (hb hby d4_67) rfl (l' := #[.val (.ref a1), .val (.int (Int32.ofNat x)), .val (.int p2), .val (.int (1 : Int32)), .val (.int (Int32.ofNat (oJoin (oWith p2 0 (oHigh S x) S).1 (oLow S x) (oWith p2 0 (oHigh S x) S).2).2))]) rfl kk) ?_
    refine own_st (F' := T6.setTop (mkF m 71 #[.val (.ref a1), .val (.int (Int32.ofNat x)), .val (.int p2), .val (.int (1 : Int32)), .val (.int (Int32.ofNat (oJoin (oWith p2 0 (oHigh S x) S).1 (oLow S x) (oWith p2 0 (oHigh S x) S).2).2))] [(.int (Int32.ofNat (oJoin (oWith p2 0 (oHigh S x) S).1 (oLow S x) (oWith p2 0 (oHigh S x) S).2).2))])) (fun t_ kk => XS.iload X6.here hx rfl (hb hby d4_69) rfl kk) ?_
    refine own_fin X6 (some (.int (Int32.ofNat (oJoin (oWith p2 0 (oHigh S x) S).1 (oLow S x) (oWith p2 0 (oHigh S x) S).2).2))) (fun h => by rw [Bd.returns] at h; cases h) Bd.notSynchronized (by decide) (by decide) (fun fs hr => X6.ireturnOut hx (t := .int) Bd.returns rfl (Or.inl rfl) (hb hby d4_71) hr) ?_
    rw [e6]
    have hW := own_with_hi (x := x) (S := S) 0 hc2
    show some (Value.int _) = some (Value.int (Int32.ofNat (oWith p2 (0 + 1) x S).2)) ∧ Fr n0 _ ∧ Keep h0 _ [a1, bl, bh, bt, bs] ∧ OFos Z _ a1 bl bh bt bs d (oWith p2 (0 + 1) x S).1
    rw [hW]; exact ⟨rfl, N6, K6, I6⟩
  · -- pc 15: not oIsLow p2 1 = false
    refine own_st (F' := T1.setTop (mkF m 18 #[.val (.ref a1), .val (.int (Int32.ofNat x)), .val (.int p2), .val (.int (1 : Int32)), .unset] [])) (fun t_ kk => XS.ifNo X1.here hx rfl (hb hby d4_15) rfl ((if0 _ _).trans (feq (fun z => hc2 ((own_bit p2 1).mp z))).1) kk) ?_
    refine own_st (F' := T1.setTop (mkF m 19 #[.val (.ref a1), .val (.int (Int32.ofNat x)), .val (.int p2), .val (.int (1 : Int32)), .unset] [(.ref a1)])) (fun t_ kk => XS.aloadN X1.here hx rfl (hb hby d4_18) rfl rfl kk) ?_
    refine own_st (F' := T1.setTop (mkF m 20 #[.val (.ref a1), .val (.int (Int32.ofNat x)), .val (.int p2), .val (.int (1 : Int32)), .unset] [(.ref a1), (.ref a1)])) (fun t_ kk => XS.aloadN X1.here hx rfl (hb hby d4_19) rfl rfl kk) ?_
    refine own_st (F' := T1.setTop (mkF m 21 #[.val (.ref a1), .val (.int (Int32.ofNat x)), .val (.int p2), .val (.int (1 : Int32)), .unset] [(.ref a1), (.ref a1), (.ref a1)])) (fun t_ kk => XS.aloadN X1.here hx rfl (hb hby d4_20) rfl rfl kk) ?_
    refine own_st (F' := T1.setTop (mkF m 22 #[.val (.ref a1), .val (.int (Int32.ofNat x)), .val (.int p2), .val (.int (1 : Int32)), .unset] [(.int (Int32.ofNat x)), (.ref a1), (.ref a1), (.ref a1)])) (fun t_ kk => XS.iloadN X1.here hx rfl (hb hby d4_21) rfl kk) ?_
    refine own_priv X1 hx hZ (y := (⟨"com/example/slackline/slackline/planning/FileOrderSets", "low", "(I)I"⟩ : MethodName)) hown (hw _ (List.mem_of_getElem? (i := 42) rfl)) (hw _ (List.mem_of_getElem? (i := 43) rfl)) (hw _ (List.mem_of_getElem? (i := 44) rfl)) (hw _ (List.mem_of_getElem? (i := 2) rfl)) (hw _ (List.mem_of_getElem? (i := 3) rfl)) (hw _ (List.mem_of_getElem? (i := 45) rfl)) I_.1 (rm7 l Z a0 hw [] a1 bl bh bt bs d S x h0 n0 Z0 I_ (by omega)) (by decide) (W := 2) (argsL := [(.int (Int32.ofNat x))]) (rest := [(.ref a1), (.ref a1)]) (by decide) (by decide) (by rw [hml]; rfl) (lenOf own_pd0 rfl) rfl rfl (Nat.le_of_eq rfl) (hb hby d4_22) e1 (by decide) (by decide) ?_
    intro v7 T7 L7 hQ7 X7
    obtain ⟨rfl, N7q, e7⟩ := hQ7
    have N7 := Fr.app N1 N7q
    show OWp p e below s _ _ _ (T7.setTop (mkF m 25 #[.val (.ref a1), .val (.int (Int32.ofNat x)), .val (.int p2), .val (.int (1 : Int32)), .unset] [(.int (Int32.ofNat (oLow S x))), (.ref a1), (.ref a1)]))
    refine own_st (F' := T7.setTop (mkF m 26 #[.val (.ref a1), .val (.int (Int32.ofNat x)), .val (.int p2), .val (.int (1 : Int32)), .unset] [(.int p2), (.int (Int32.ofNat (oLow S x))), (.ref a1), (.ref a1)])) (fun t_ kk => XS.iloadN X7.here hx rfl (hb hby d4_25) rfl kk) ?_
    refine own_st (F' := T7.setTop (mkF m 27 #[.val (.ref a1), .val (.int (Int32.ofNat x)), .val (.int p2), .val (.int (1 : Int32)), .unset] [(.int (1 : Int32)), (.int p2), (.int (Int32.ofNat (oLow S x))), (.ref a1), (.ref a1)])) (fun t_ kk => XS.iloadN X7.here hx rfl (hb hby d4_26) rfl kk) ?_
    refine own_st (F' := T7.setTop (mkF m 28 #[.val (.ref a1), .val (.int (Int32.ofNat x)), .val (.int p2), .val (.int (1 : Int32)), .unset] [(.int (1 : Int32)), (.int (1 : Int32)), (.int p2), (.int (Int32.ofNat (oLow S x))), (.ref a1), (.ref a1)])) (fun t_ kk => XS.iconst X7.here hx rfl (hb hby d4_27) kk) ?_
    refine own_st (F' := T7.setTop (mkF m 29 #[.val (.ref a1), .val (.int (Int32.ofNat x)), .val (.int p2), .val (.int (1 : Int32)), .unset] [(.int (0 : Int32)), (.int p2), (.int (Int32.ofNat (oLow S x))), (.ref a1), (.ref a1)])) (fun t_ kk => XS.isub X7.here hx rfl (hb hby d4_28) rfl kk) ?_
    have hlt1 := oLow_lt hI hxc
    obtain ⟨ok1, ok2, ok3, ok4⟩ := oWith_ok p2 0 (oLow S x) S hI (by omega) hlt1
    refine own_priv X7 hx hZ (y := (⟨"com/example/slackline/slackline/planning/FileOrderSets", "with", "(III)I"⟩ : MethodName)) hown (hw _ (List.mem_of_getElem? (i := 30) rfl)) (hw _ (List.mem_of_getElem? (i := 31) rfl)) (hw _ (List.mem_of_getElem? (i := 32) rfl)) (hw _ (List.mem_of_getElem? (i := 2) rfl)) (hw _ (List.mem_of_getElem? (i := 3) rfl)) (hw _ (List.mem_of_getElem? (i := 33) rfl)) I_.1 (rm4_0 l Z a0 hw [] a1 bl bh bt bs d S (oLow S x) p2 h0 n0 Z0 I_ hg hdis hI (by omega) hst hlt1) (by decide) (W := 1) (argsL := [(.int (Int32.ofNat (oLow S x))), (.int p2), (.int (0 : Int32))]) (rest := [(.ref a1)]) (by decide) (by decide) (by rw [hml]; rfl) (lenOf own_pd3 rfl) rfl rfl (Nat.le_of_eq rfl) (hb hby d4_29) e7 (by decide) (by decide) ?_
    intro v8 T8 L8 hQ8 X8
    obtain ⟨rfl, N8q, K8, I8⟩ := hQ8
    have N8 := Fr.app N7 N8q
    have Z8 := Nat.le_trans Z0 K8.1
    obtain ⟨h8, e8⟩ : ∃ z, T8.heap = z := ⟨_, rfl⟩
    rw [e8] at K8 I8 Z8
    show OWp p e below s _ _ _ (T8.setTop (mkF m 32 #[.val (.ref a1), .val (.int (Int32.ofNat x)), .val (.int p2), .val (.int (1 : Int32)), .unset] [(.int (Int32.ofNat (oWith p2 0 (oLow S x) S).2)), (.ref a1)]))
    refine own_st (F' := T8.setTop (mkF m 33 #[.val (.ref a1), .val (.int (Int32.ofNat x)), .val (.int p2), .val (.int (1 : Int32)), .unset] [(.ref a1), (.int (Int32.ofNat (oWith p2 0 (oLow S x) S).2)), (.ref a1)])) (fun t_ kk => XS.aloadN X8.here hx rfl (hb hby d4_32) rfl rfl kk) ?_
    refine own_st (F' := T8.setTop (mkF m 34 #[.val (.ref a1), .val (.int (Int32.ofNat x)), .val (.int p2), .val (.int (1 : Int32)), .unset] [(.int (Int32.ofNat x)), (.ref a1), (.int (Int32.ofNat (oWith p2 0 (oLow S x) S).2)), (.ref a1)])) (fun t_ kk => XS.iloadN X8.here hx rfl (hb hby d4_33) rfl kk) ?_
    refine own_priv X8 hx hZ (y := (⟨"com/example/slackline/slackline/planning/FileOrderSets", "high", "(I)I"⟩ : MethodName)) hown (hw _ (List.mem_of_getElem? (i := 46) rfl)) (hw _ (List.mem_of_getElem? (i := 47) rfl)) (hw _ (List.mem_of_getElem? (i := 48) rfl)) (hw _ (List.mem_of_getElem? (i := 2) rfl)) (hw _ (List.mem_of_getElem? (i := 3) rfl)) (hw _ (List.mem_of_getElem? (i := 49) rfl)) I8.1 (rm8 l Z a0 hw [] a1 bl bh bt bs d (oWith p2 0 (oLow S x) S).1 x h8 n0 Z8 I8 (by omega)) (by decide) (W := 2) (argsL := [(.int (Int32.ofNat x))]) (rest := [(.int (Int32.ofNat (oWith p2 0 (oLow S x) S).2)), (.ref a1)]) (by decide) (by decide) (by rw [hml]; rfl) (lenOf own_pd0 rfl) rfl rfl (Nat.le_of_eq rfl) (hb hby d4_34) e8 (by decide) (by decide) ?_
    intro v9 T9 L9 hQ9 X9
    obtain ⟨rfl, N9q, e9⟩ := hQ9
    have N9 := Fr.app N8 N9q
    show OWp p e below s _ _ _ (T9.setTop (mkF m 37 #[.val (.ref a1), .val (.int (Int32.ofNat x)), .val (.int p2), .val (.int (1 : Int32)), .unset] [(.int (Int32.ofNat (oHigh (oWith p2 0 (oLow S x) S).1 x))), (.int (Int32.ofNat (oWith p2 0 (oLow S x) S).2)), (.ref a1)]))
    have hj1 := ok2
    have hj2 := oHigh_lt ok1 (x := x) (by omega)
    have hst1 : oSt (oWith p2 0 (oLow S x) S).1 < 64 := by rw [oWith_st]; exact hst
    refine own_priv X9 hx hZ (y := (⟨"com/example/slackline/slackline/planning/FileOrderSets", "join", "(II)I"⟩ : MethodName)) hown (hw _ (List.mem_of_getElem? (i := 50) rfl)) (hw _ (List.mem_of_getElem? (i := 51) rfl)) (hw _ (List.mem_of_getElem? (i := 52) rfl)) (hw _ (List.mem_of_getElem? (i := 2) rfl)) (hw _ (List.mem_of_getElem? (i := 3) rfl)) (hw _ (List.mem_of_getElem? (i := 53) rfl)) I8.1 (rm9 l Z a0 hw [] a1 bl bh bt bs d (oWith p2 0 (oLow S x) S).1 (oWith p2 0 (oLow S x) S).2 (oHigh (oWith p2 0 (oLow S x) S).1 x) h8 n0 Z8 I8 hg hdis ok1 (by omega) hst1 hj1 hj2) (by decide) (W := 0) (argsL := [(.int (Int32.ofNat (oWith p2 0 (oLow S x) S).2)), (.int (Int32.ofNat (oHigh (oWith p2 0 (oLow S x) S).1 x)))]) (rest := []) (by decide) (by decide) (by rw [hml]; rfl) (lenOf own_pd1 rfl) rfl rfl (Nat.le_of_eq rfl) (hb hby d4_37) e9 (by decide) (by decide) ?_
    intro v10 T10 L10 hQ10 X10
    obtain ⟨rfl, N10q, K10q, I10⟩ := hQ10
    have N10 := Fr.app N9 N10q
    have Z10 := Nat.le_trans Z8 K10q.1
    obtain ⟨h10, e10⟩ : ∃ z, T10.heap = z := ⟨_, rfl⟩
    rw [e10] at K10q I10 Z10
    have K10 := Keep.trans K8 K10q (fun y hy => Or.inl hy)
    show OWp p e below s _ _ _ (T10.setTop (mkF m 40 #[.val (.ref a1), .val (.int (Int32.ofNat x)), .val (.int p2), .val (.int (1 : Int32)), .unset] [(.int (Int32.ofNat (oJoin (oWith p2 0 (oLow S x) S).1 (oWith p2 0 (oLow S x) S).2 (oHigh (oWith p2 0 (oLow S x) S).1 x)).2))]))
    refine own_st (F' := T10.setTop (mkF m 42 #[.val (.ref a1), .val (.int (Int32.ofNat x)), .val (.int p2), .val (.int (1 : Int32)), .val (.int (Int32.ofNat (oJoin (oWith p2 0 (oLow S x) S).1 (oWith p2 0 (oLow S x) S).2 (oHigh (oWith p2 0 (oLow S x) S).1 x)).2))] [])) (fun t_ kk => XS.istore X10.here hx rfl (hb hby d4_40) rfl (l' := #[.val (.ref a1), .val (.int (Int32.ofNat x)), .val (.int p2), .val (.int (1 : Int32)), .val (.int (Int32.ofNat (oJoin (oWith p2 0 (oLow S x) S).1 (oWith p2 0 (oLow S x) S).2 (oHigh (oWith p2 0 (oLow S x) S).1 x)).2))]) rfl kk) ?_
    refine own_st (F' := T10.setTop (mkF m 69 #[.val (.ref a1), .val (.int (Int32.ofNat x)), .val (.int p2), .val (.int (1 : Int32)), .val (.int (Int32.ofNat (oJoin (oWith p2 0 (oLow S x) S).1 (oWith p2 0 (oLow S x) S).2 (oHigh (oWith p2 0 (oLow S x) S).1 x)).2))] [])) (fun t_ kk => XS.goto X10.here hx rfl (pc0 := 42) (pc' := 69) rfl (hb hby d4_42) (by decide) (by decide) kk) ?_
    refine own_st (F' := T10.setTop (mkF m 71 #[.val (.ref a1), .val (.int (Int32.ofNat x)), .val (.int p2), .val (.int (1 : Int32)), .val (.int (Int32.ofNat (oJoin (oWith p2 0 (oLow S x) S).1 (oWith p2 0 (oLow S x) S).2 (oHigh (oWith p2 0 (oLow S x) S).1 x)).2))] [(.int (Int32.ofNat (oJoin (oWith p2 0 (oLow S x) S).1 (oWith p2 0 (oLow S x) S).2 (oHigh (oWith p2 0 (oLow S x) S).1 x)).2))])) (fun t_ kk => XS.iload X10.here hx rfl (hb hby d4_69) rfl kk) ?_
    refine own_fin X10 (some (.int (Int32.ofNat (oJoin (oWith p2 0 (oLow S x) S).1 (oWith p2 0 (oLow S x) S).2 (oHigh (oWith p2 0 (oLow S x) S).1 x)).2))) (fun h => by rw [Bd.returns] at h; cases h) Bd.notSynchronized (by decide) (by decide) (fun fs hr => X10.ireturnOut hx (t := .int) Bd.returns rfl (Or.inl rfl) (hb hby d4_71) hr) ?_
    rw [e10]
    have hW := own_with_lo (x := x) (S := S) 0 (by simpa using hc2)
    show some (Value.int _) = some (Value.int (Int32.ofNat (oWith p2 (0 + 1) x S).2)) ∧ Fr n0 _ ∧ Keep h0 _ [a1, bl, bh, bt, bs] ∧ OFos Z _ a1 bl bh bt bs d (oWith p2 (0 + 1) x S).1
    rw [hW]; exact ⟨rfl, N10, K10, I10⟩

set_option maxRecDepth 65536 in
set_option maxHeartbeats 40000000 in
theorem rm4_2 (l : Launch) (Z : State) (a0 : Array Value) (hw : ∀ d ∈ tables_1, d.before a0 Z = true) (ws : List Jvm.Cond) (a1 bl bh bt bs : Addr) (d : Nat) (S : OSt) (x : Nat) (p2 : Int32) (h0 : Heap) (n0 : Nat) (Z0 : n0 ≤ h0.size) (I : OFos Z h0 a1 bl bh bt bs d S) (hg : n0 ≤ a1 ∧ n0 ≤ bl ∧ n0 ≤ bh ∧ n0 ≤ bt ∧ n0 ≤ bs) (hdis : ODis a1 bl bh bt bs) (hI : OInv S) (hc : oCn S + 2 ≤ 16) (hst : oSt S < 64) (hxc : x < oCn S) :
    MetFree l (⟨"com/example/slackline/slackline/planning/FileOrderSets", "with", "(III)I"⟩ : MethodName) (head1 (Jvm.Cond.code (⟨"com/example/slackline/slackline/planning/FileOrderSets", "with", "(III)I"⟩ : MethodName) prog_8_method_5_code 5 (some .int) :: ws) ({ frames := 4, cells := 0, slots := 0, locals := 66 } : Room)) (fun a U => a = #[(.ref a1), (.int (Int32.ofNat x)), (.int p2), (.int (2 : Int32))] ∧ Z.Warmed39 U.vm ∧ U.heap = h0) (fun _ _ _ _ _ => True) (fun _ U o U' => ∃ v L, o = .returned v ∧ Q4 Z a1 bl bh bt bs d S x p2 2 h0 n0 v U'.heap L ∧ FrameEnd U o U' L ({ frames := 4, cells := 0, slots := 0, locals := 66 } : Room).cells ({ frames := 4, cells := 0, slots := 0, locals := 66 } : Room).slots) := by
  refine MetFree.of_bodySF (plainFor_of_name pn_4) hisR ?_
  intro p e s m args below meth c s₁ Bd hml0 hP hK
  obtain ⟨rfl, hZ, hh⟩ := hP
  have hx := Bd.exec
  have hby := Bd.bytes
  have hml : c.maxLocals = 5 := hml0
  have hown : s.vm.findClass "com/example/slackline/slackline/planning/FileOrderSets" = some m.cls := findClass_of_methodNamed Bd.named
  have hnm := (name_of_methodNamed Bd.named Bd.method).1
  have X0 : Stand p l e ({ frames := 4, cells := 0, slots := 0, locals := 66 } : Room) s m #[(.ref a1), (.int (Int32.ofNat x)), (.int p2), (.int (2 : Int32))] below meth c s₁ [] 0 0 := Stand.of_body Bd
  have e0 : s₁.heap = h0 := by rw [← hh, Bd.state]; rfl
  have N0 := Fr.nil n0
  suffices hgoal : OWp p e below s ({ frames := 4, cells := 0, slots := 0, locals := 66 } : Room).cells ({ frames := 4, cells := 0, slots := 0, locals := 66 } : Room).slots (Q4 Z a1 bl bh bt bs d S x p2 2 h0 n0) (s₁.setTop (mkF m 0 #[.val (.ref a1), .val (.int (Int32.ofNat x)), .val (.int p2), .val (.int (2 : Int32)), .unset] [])) by
    rw [← ef_4] at hgoal; exact hgoal
  have I_ := I
  refine own_st (F' := s₁.setTop (mkF m 1 #[.val (.ref a1), .val (.int (Int32.ofNat x)), .val (.int p2), .val (.int (2 : Int32)), .unset] [(.int (2 : Int32))])) (fun t_ kk => XS.iloadN X0.here hx rfl (hb hby d4_0) rfl kk) ?_
  refine own_st (F' := s₁.setTop (mkF m 10 #[.val (.ref a1), .val (.int (Int32.ofNat x)), .val (.int p2), .val (.int (2 : Int32)), .unset] [])) (fun t_ kk => XS.ifYes X0.here hx rfl (pc0 := 1) (pc' := 10) rfl (hb hby d4_1) rfl ((if0 _ _).trans (feq (by decide : ¬ ((2 : Int32) = (0 : Int32)))).2) (by decide) (by decide) kk) ?_
  refine own_st (F' := s₁.setTop (mkF m 11 #[.val (.ref a1), .val (.int (Int32.ofNat x)), .val (.int p2), .val (.int (2 : Int32)), .unset] [(.int p2)])) (fun t_ kk => XS.iloadN X0.here hx rfl (hb hby d4_10) rfl kk) ?_
  refine own_st (F' := s₁.setTop (mkF m 12 #[.val (.ref a1), .val (.int (Int32.ofNat x)), .val (.int p2), .val (.int (2 : Int32)), .unset] [(.int (2 : Int32)), (.int p2)])) (fun t_ kk => XS.iloadN X0.here hx rfl (hb hby d4_11) rfl kk) ?_
  refine own_callS X0 hx hZ (y := (⟨"com/example/slackline/slackline/planning/FileOrderSets", "inLow", "(II)Z"⟩ : MethodName)) hown (hw _ (List.mem_of_getElem? (i := 39) rfl)) (hw _ (List.mem_of_getElem? (i := 40) rfl)) (hw _ (List.mem_of_getElem? (i := 3) rfl)) (hw _ (List.mem_of_getElem? (i := 41) rfl)) (rm6 l Z a0 hw [] p2 (2 : Int32) h0 n0 Z0) (by decide) (W := 0) (argsL := [(.int p2), (.int (2 : Int32))]) (rest := []) (by decide) (by decide) (by rw [hml]; rfl) (lenOf own_pd2 rfl) rfl rfl (Nat.le_of_eq rfl) (hb hby d4_12) e0 (by decide) (by decide) ?_
  intro v1 T1 L1 hQ1 X1
  obtain ⟨rfl, N1q, e1⟩ := hQ1
  have N1 := Fr.app N0 N1q
  show OWp p e below s _ _ _ (T1.setTop (mkF m 15 #[.val (.ref a1), .val (.int (Int32.ofNat x)), .val (.int p2), .val (.int (2 : Int32)), .unset] [(.int (oBit p2 (2 : Int32)))]))
  by_cases hc2 : oIsLow p2 2 = false
  · -- pc 15: oIsLow p2 2 = false
    refine own_st (F' := T1.setTop (mkF m 45 #[.val (.ref a1), .val (.int (Int32.ofNat x)), .val (.int p2), .val (.int (2 : Int32)), .unset] [])) (fun t_ kk => XS.ifYes X1.here hx rfl (pc0 := 15) (pc' := 45) rfl (hb hby d4_15) rfl ((if0 _ _).trans (teq ((own_bit p2 2).mpr hc2)).1) (by decide) (by decide) kk) ?_
    refine own_st (F' := T1.setTop (mkF m 46 #[.val (.ref a1), .val (.int (Int32.ofNat x)), .val (.int p2), .val (.int (2 : Int32)), .unset] [(.ref a1)])) (fun t_ kk => XS.aloadN X1.here hx rfl (hb hby d4_45) rfl rfl kk) ?_
    refine own_st (F' := T1.setTop (mkF m 47 #[.val (.ref a1), .val (.int (Int32.ofNat x)), .val (.int p2), .val (.int (2 : Int32)), .unset] [(.ref a1), (.ref a1)])) (fun t_ kk => XS.aloadN X1.here hx rfl (hb hby d4_46) rfl rfl kk) ?_
    refine own_st (F' := T1.setTop (mkF m 48 #[.val (.ref a1), .val (.int (Int32.ofNat x)), .val (.int p2), .val (.int (2 : Int32)), .unset] [(.int (Int32.ofNat x)), (.ref a1), (.ref a1)])) (fun t_ kk => XS.iloadN X1.here hx rfl (hb hby d4_47) rfl kk) ?_
    refine own_priv X1 hx hZ (y := (⟨"com/example/slackline/slackline/planning/FileOrderSets", "low", "(I)I"⟩ : MethodName)) hown (hw _ (List.mem_of_getElem? (i := 42) rfl)) (hw _ (List.mem_of_getElem? (i := 43) rfl)) (hw _ (List.mem_of_getElem? (i := 44) rfl)) (hw _ (List.mem_of_getElem? (i := 2) rfl)) (hw _ (List.mem_of_getElem? (i := 3) rfl)) (hw _ (List.mem_of_getElem? (i := 45) rfl)) I_.1 (rm7 l Z a0 hw [] a1 bl bh bt bs d S x h0 n0 Z0 I_ (by omega)) (by decide) (W := 1) (argsL := [(.int (Int32.ofNat x))]) (rest := [(.ref a1)]) (by decide) (by decide) (by rw [hml]; rfl) (lenOf own_pd0 rfl) rfl rfl (Nat.le_of_eq rfl) (hb hby d4_48) e1 (by decide) (by decide) ?_
    intro v3 T3 L3 hQ3 X3
    obtain ⟨rfl, N3q, e3⟩ := hQ3
    have N3 := Fr.app N1 N3q
    show OWp p e below s _ _ _ (T3.setTop (mkF m 51 #[.val (.ref a1), .val (.int (Int32.ofNat x)), .val (.int p2), .val (.int (2 : Int32)), .unset] [(.int (Int32.ofNat (oLow S x))), (.ref a1)]))
    refine own_st (F' := T3.setTop (mkF m 52 #[.val (.ref a1), .val (.int (Int32.ofNat x)), .val (.int p2), .val (.int (2 : Int32)), .unset] [(.ref a1), (.int (Int32.ofNat (oLow S x))), (.ref a1)])) (fun t_ kk => XS.aloadN X3.here hx rfl (hb hby d4_51) rfl rfl kk) ?_
    refine own_st (F' := T3.setTop (mkF m 53 #[.val (.ref a1), .val (.int (Int32.ofNat x)), .val (.int p2), .val (.int (2 : Int32)), .unset] [(.ref a1), (.ref a1), (.int (Int32.ofNat (oLow S x))), (.ref a1)])) (fun t_ kk => XS.aloadN X3.here hx rfl (hb hby d4_52) rfl rfl kk) ?_
    refine own_st (F' := T3.setTop (mkF m 54 #[.val (.ref a1), .val (.int (Int32.ofNat x)), .val (.int p2), .val (.int (2 : Int32)), .unset] [(.int (Int32.ofNat x)), (.ref a1), (.ref a1), (.int (Int32.ofNat (oLow S x))), (.ref a1)])) (fun t_ kk => XS.iloadN X3.here hx rfl (hb hby d4_53) rfl kk) ?_
    refine own_priv X3 hx hZ (y := (⟨"com/example/slackline/slackline/planning/FileOrderSets", "high", "(I)I"⟩ : MethodName)) hown (hw _ (List.mem_of_getElem? (i := 46) rfl)) (hw _ (List.mem_of_getElem? (i := 47) rfl)) (hw _ (List.mem_of_getElem? (i := 48) rfl)) (hw _ (List.mem_of_getElem? (i := 2) rfl)) (hw _ (List.mem_of_getElem? (i := 3) rfl)) (hw _ (List.mem_of_getElem? (i := 49) rfl)) I_.1 (rm8 l Z a0 hw [] a1 bl bh bt bs d S x h0 n0 Z0 I_ (by omega)) (by decide) (W := 3) (argsL := [(.int (Int32.ofNat x))]) (rest := [(.ref a1), (.int (Int32.ofNat (oLow S x))), (.ref a1)]) (by decide) (by decide) (by rw [hml]; rfl) (lenOf own_pd0 rfl) rfl rfl (Nat.le_of_eq rfl) (hb hby d4_54) e3 (by decide) (by decide) ?_
    intro v4 T4 L4 hQ4 X4
    obtain ⟨rfl, N4q, e4⟩ := hQ4
    have N4 := Fr.app N3 N4q
    show OWp p e below s _ _ _ (T4.setTop (mkF m 57 #[.val (.ref a1), .val (.int (Int32.ofNat x)), .val (.int p2), .val (.int (2 : Int32)), .unset] [(.int (Int32.ofNat (oHigh S x))), (.ref a1), (.int (Int32.ofNat (oLow S x))), (.ref a1)]))
    refine own_st (F' := T4.setTop (mkF m 58 #[.val (.ref a1), .val (.int (Int32.ofNat x)), .val (.int p2), .val (.int (2 : Int32)), .unset] [(.int p2), (.int (Int32.ofNat (oHigh S x))), (.ref a1), (.int (Int32.ofNat (oLow S x))), (.ref a1)])) (fun t_ kk => XS.iloadN X4.here hx rfl (hb hby d4_57) rfl kk) ?_
    refine own_st (F' := T4.setTop (mkF m 59 #[.val (.ref a1), .val (.int (Int32.ofNat x)), .val (.int p2), .val (.int (2 : Int32)), .unset] [(.int (2 : Int32)), (.int p2), (.int (Int32.ofNat (oHigh S x))), (.ref a1), (.int (Int32.ofNat (oLow S x))), (.ref a1)])) (fun t_ kk => XS.iloadN X4.here hx rfl (hb hby d4_58) rfl kk) ?_
    refine own_st (F' := T4.setTop (mkF m 60 #[.val (.ref a1), .val (.int (Int32.ofNat x)), .val (.int p2), .val (.int (2 : Int32)), .unset] [(.int (1 : Int32)), (.int (2 : Int32)), (.int p2), (.int (Int32.ofNat (oHigh S x))), (.ref a1), (.int (Int32.ofNat (oLow S x))), (.ref a1)])) (fun t_ kk => XS.iconst X4.here hx rfl (hb hby d4_59) kk) ?_
    refine own_st (F' := T4.setTop (mkF m 61 #[.val (.ref a1), .val (.int (Int32.ofNat x)), .val (.int p2), .val (.int (2 : Int32)), .unset] [(.int (1 : Int32)), (.int p2), (.int (Int32.ofNat (oHigh S x))), (.ref a1), (.int (Int32.ofNat (oLow S x))), (.ref a1)])) (fun t_ kk => XS.isub X4.here hx rfl (hb hby d4_60) rfl kk) ?_
    have hlt2 := oHigh_lt hI hxc
    obtain ⟨ok1, ok2, ok3, ok4⟩ := oWith_ok p2 1 (oHigh S x) S hI (by omega) hlt2
    refine own_priv X4 hx hZ (y := (⟨"com/example/slackline/slackline/planning/FileOrderSets", "with", "(III)I"⟩ : MethodName)) hown (hw _ (List.mem_of_getElem? (i := 30) rfl)) (hw _ (List.mem_of_getElem? (i := 31) rfl)) (hw _ (List.mem_of_getElem? (i := 32) rfl)) (hw _ (List.mem_of_getElem? (i := 2) rfl)) (hw _ (List.mem_of_getElem? (i := 3) rfl)) (hw _ (List.mem_of_getElem? (i := 33) rfl)) I_.1 (rm4_1 l Z a0 hw [] a1 bl bh bt bs d S (oHigh S x) p2 h0 n0 Z0 I_ hg hdis hI (by omega) hst hlt2) (by decide) (W := 2) (argsL := [(.int (Int32.ofNat (oHigh S x))), (.int p2), (.int (1 : Int32))]) (rest := [(.int (Int32.ofNat (oLow S x))), (.ref a1)]) (by decide) (by decide) (by rw [hml]; rfl) (lenOf own_pd3 rfl) rfl rfl (Nat.le_of_eq rfl) (hb hby d4_61) e4 (by decide) (by decide) ?_
    intro v5 T5 L5 hQ5 X5
    obtain ⟨rfl, N5q, K5, I5⟩ := hQ5
    have N5 := Fr.app N4 N5q
    have Z5 := Nat.le_trans Z0 K5.1
    obtain ⟨h5, e5⟩ : ∃ z, T5.heap = z := ⟨_, rfl⟩
    rw [e5] at K5 I5 Z5
    show OWp p e below s _ _ _ (T5.setTop (mkF m 64 #[.val (.ref a1), .val (.int (Int32.ofNat x)), .val (.int p2), .val (.int (2 : Int32)), .unset] [(.int (Int32.ofNat (oWith p2 1 (oHigh S x) S).2)), (.int (Int32.ofNat (oLow S x))), (.ref a1)]))
    have hj1 : oLow S x < oCn (oWith p2 1 (oHigh S x) S).1 := Nat.lt_of_lt_of_le (oLow_lt hI hxc) ok3
    have hj2 := ok2
    have hst1 : oSt (oWith p2 1 (oHigh S x) S).1 < 64 := by rw [oWith_st]; exact hst
    refine own_priv X5 hx hZ (y := (⟨"com/example/slackline/slackline/planning/FileOrderSets", "join", "(II)I"⟩ : MethodName)) hown (hw _ (List.mem_of_getElem? (i := 50) rfl)) (hw _ (List.mem_of_getElem? (i := 51) rfl)) (hw _ (List.mem_of_getElem? (i := 52) rfl)) (hw _ (List.mem_of_getElem? (i := 2) rfl)) (hw _ (List.mem_of_getElem? (i := 3) rfl)) (hw _ (List.mem_of_getElem? (i := 53) rfl)) I5.1 (rm9 l Z a0 hw [] a1 bl bh bt bs d (oWith p2 1 (oHigh S x) S).1 (oLow S x) (oWith p2 1 (oHigh S x) S).2 h5 n0 Z5 I5 hg hdis ok1 (by omega) hst1 hj1 hj2) (by decide) (W := 0) (argsL := [(.int (Int32.ofNat (oLow S x))), (.int (Int32.ofNat (oWith p2 1 (oHigh S x) S).2))]) (rest := []) (by decide) (by decide) (by rw [hml]; rfl) (lenOf own_pd1 rfl) rfl rfl (Nat.le_of_eq rfl) (hb hby d4_64) e5 (by decide) (by decide) ?_
    intro v6 T6 L6 hQ6 X6
    obtain ⟨rfl, N6q, K6q, I6⟩ := hQ6
    have N6 := Fr.app N5 N6q
    have Z6 := Nat.le_trans Z5 K6q.1
    obtain ⟨h6, e6⟩ : ∃ z, T6.heap = z := ⟨_, rfl⟩
    rw [e6] at K6q I6 Z6
    have K6 := Keep.trans K5 K6q (fun y hy => Or.inl hy)
    show OWp p e below s _ _ _ (T6.setTop (mkF m 67 #[.val (.ref a1), .val (.int (Int32.ofNat x)), .val (.int p2), .val (.int (2 : Int32)), .unset] [(.int (Int32.ofNat (oJoin (oWith p2 1 (oHigh S x) S).1 (oLow S x) (oWith p2 1 (oHigh S x) S).2).2))]))
    refine own_st (F' := T6.setTop (mkF m 69 #[.val (.ref a1), .val (.int (Int32.ofNat x)), .val (.int p2), .val (.int (2 : Int32)), .val (.int (Int32.ofNat (oJoin (oWith p2 1 (oHigh S x) S).1 (oLow S x) (oWith p2 1 (oHigh S x) S).2).2))] [])) (fun t_ kk => XS.istore X6.here hx rfl (hb hby d4_67) rfl (l' := #[.val (.ref a1), .val (.int (Int32.ofNat x)), .val (.int p2), .val (.int (2 : Int32)), .val (.int (Int32.ofNat (oJoin (oWith p2 1 (oHigh S x) S).1 (oLow S x) (oWith p2 1 (oHigh S x) S).2).2))]) rfl kk) ?_
    refine own_st (F' := T6.setTop (mkF m 71 #[.val (.ref a1), .val (.int (Int32.ofNat x)), .val (.int p2), .val (.int (2 : Int32)), .val (.int (Int32.ofNat (oJoin (oWith p2 1 (oHigh S x) S).1 (oLow S x) (oWith p2 1 (oHigh S x) S).2).2))] [(.int (Int32.ofNat (oJoin (oWith p2 1 (oHigh S x) S).1 (oLow S x) (oWith p2 1 (oHigh S x) S).2).2))])) (fun t_ kk => XS.iload X6.here hx rfl (hb hby d4_69) rfl kk) ?_
    refine own_fin X6 (some (.int (Int32.ofNat (oJoin (oWith p2 1 (oHigh S x) S).1 (oLow S x) (oWith p2 1 (oHigh S x) S).2).2))) (fun h => by rw [Bd.returns] at h; cases h) Bd.notSynchronized (by decide) (by decide) (fun fs hr => X6.ireturnOut hx (t := .int) Bd.returns rfl (Or.inl rfl) (hb hby d4_71) hr) ?_
    rw [e6]
    have hW := own_with_hi (x := x) (S := S) 1 hc2
    show some (Value.int _) = some (Value.int (Int32.ofNat (oWith p2 (1 + 1) x S).2)) ∧ Fr n0 _ ∧ Keep h0 _ [a1, bl, bh, bt, bs] ∧ OFos Z _ a1 bl bh bt bs d (oWith p2 (1 + 1) x S).1
    rw [hW]; exact ⟨rfl, N6, K6, I6⟩
  · -- pc 15: not oIsLow p2 2 = false
    refine own_st (F' := T1.setTop (mkF m 18 #[.val (.ref a1), .val (.int (Int32.ofNat x)), .val (.int p2), .val (.int (2 : Int32)), .unset] [])) (fun t_ kk => XS.ifNo X1.here hx rfl (hb hby d4_15) rfl ((if0 _ _).trans (feq (fun z => hc2 ((own_bit p2 2).mp z))).1) kk) ?_
    refine own_st (F' := T1.setTop (mkF m 19 #[.val (.ref a1), .val (.int (Int32.ofNat x)), .val (.int p2), .val (.int (2 : Int32)), .unset] [(.ref a1)])) (fun t_ kk => XS.aloadN X1.here hx rfl (hb hby d4_18) rfl rfl kk) ?_
    refine own_st (F' := T1.setTop (mkF m 20 #[.val (.ref a1), .val (.int (Int32.ofNat x)), .val (.int p2), .val (.int (2 : Int32)), .unset] [(.ref a1), (.ref a1)])) (fun t_ kk => XS.aloadN X1.here hx rfl (hb hby d4_19) rfl rfl kk) ?_
    refine own_st (F' := T1.setTop (mkF m 21 #[.val (.ref a1), .val (.int (Int32.ofNat x)), .val (.int p2), .val (.int (2 : Int32)), .unset] [(.ref a1), (.ref a1), (.ref a1)])) (fun t_ kk => XS.aloadN X1.here hx rfl (hb hby d4_20) rfl rfl kk) ?_
    refine own_st (F' := T1.setTop (mkF m 22 #[.val (.ref a1), .val (.int (Int32.ofNat x)), .val (.int p2), .val (.int (2 : Int32)), .unset] [(.int (Int32.ofNat x)), (.ref a1), (.ref a1), (.ref a1)])) (fun t_ kk => XS.iloadN X1.here hx rfl (hb hby d4_21) rfl kk) ?_
    refine own_priv X1 hx hZ (y := (⟨"com/example/slackline/slackline/planning/FileOrderSets", "low", "(I)I"⟩ : MethodName)) hown (hw _ (List.mem_of_getElem? (i := 42) rfl)) (hw _ (List.mem_of_getElem? (i := 43) rfl)) (hw _ (List.mem_of_getElem? (i := 44) rfl)) (hw _ (List.mem_of_getElem? (i := 2) rfl)) (hw _ (List.mem_of_getElem? (i := 3) rfl)) (hw _ (List.mem_of_getElem? (i := 45) rfl)) I_.1 (rm7 l Z a0 hw [] a1 bl bh bt bs d S x h0 n0 Z0 I_ (by omega)) (by decide) (W := 2) (argsL := [(.int (Int32.ofNat x))]) (rest := [(.ref a1), (.ref a1)]) (by decide) (by decide) (by rw [hml]; rfl) (lenOf own_pd0 rfl) rfl rfl (Nat.le_of_eq rfl) (hb hby d4_22) e1 (by decide) (by decide) ?_
    intro v7 T7 L7 hQ7 X7
    obtain ⟨rfl, N7q, e7⟩ := hQ7
    have N7 := Fr.app N1 N7q
    show OWp p e below s _ _ _ (T7.setTop (mkF m 25 #[.val (.ref a1), .val (.int (Int32.ofNat x)), .val (.int p2), .val (.int (2 : Int32)), .unset] [(.int (Int32.ofNat (oLow S x))), (.ref a1), (.ref a1)]))
    refine own_st (F' := T7.setTop (mkF m 26 #[.val (.ref a1), .val (.int (Int32.ofNat x)), .val (.int p2), .val (.int (2 : Int32)), .unset] [(.int p2), (.int (Int32.ofNat (oLow S x))), (.ref a1), (.ref a1)])) (fun t_ kk => XS.iloadN X7.here hx rfl (hb hby d4_25) rfl kk) ?_
    refine own_st (F' := T7.setTop (mkF m 27 #[.val (.ref a1), .val (.int (Int32.ofNat x)), .val (.int p2), .val (.int (2 : Int32)), .unset] [(.int (2 : Int32)), (.int p2), (.int (Int32.ofNat (oLow S x))), (.ref a1), (.ref a1)])) (fun t_ kk => XS.iloadN X7.here hx rfl (hb hby d4_26) rfl kk) ?_
    refine own_st (F' := T7.setTop (mkF m 28 #[.val (.ref a1), .val (.int (Int32.ofNat x)), .val (.int p2), .val (.int (2 : Int32)), .unset] [(.int (1 : Int32)), (.int (2 : Int32)), (.int p2), (.int (Int32.ofNat (oLow S x))), (.ref a1), (.ref a1)])) (fun t_ kk => XS.iconst X7.here hx rfl (hb hby d4_27) kk) ?_
    refine own_st (F' := T7.setTop (mkF m 29 #[.val (.ref a1), .val (.int (Int32.ofNat x)), .val (.int p2), .val (.int (2 : Int32)), .unset] [(.int (1 : Int32)), (.int p2), (.int (Int32.ofNat (oLow S x))), (.ref a1), (.ref a1)])) (fun t_ kk => XS.isub X7.here hx rfl (hb hby d4_28) rfl kk) ?_
    have hlt2 := oLow_lt hI hxc
    obtain ⟨ok1, ok2, ok3, ok4⟩ := oWith_ok p2 1 (oLow S x) S hI (by omega) hlt2
    refine own_priv X7 hx hZ (y := (⟨"com/example/slackline/slackline/planning/FileOrderSets", "with", "(III)I"⟩ : MethodName)) hown (hw _ (List.mem_of_getElem? (i := 30) rfl)) (hw _ (List.mem_of_getElem? (i := 31) rfl)) (hw _ (List.mem_of_getElem? (i := 32) rfl)) (hw _ (List.mem_of_getElem? (i := 2) rfl)) (hw _ (List.mem_of_getElem? (i := 3) rfl)) (hw _ (List.mem_of_getElem? (i := 33) rfl)) I_.1 (rm4_1 l Z a0 hw [] a1 bl bh bt bs d S (oLow S x) p2 h0 n0 Z0 I_ hg hdis hI (by omega) hst hlt2) (by decide) (W := 1) (argsL := [(.int (Int32.ofNat (oLow S x))), (.int p2), (.int (1 : Int32))]) (rest := [(.ref a1)]) (by decide) (by decide) (by rw [hml]; rfl) (lenOf own_pd3 rfl) rfl rfl (Nat.le_of_eq rfl) (hb hby d4_29) e7 (by decide) (by decide) ?_
    intro v8 T8 L8 hQ8 X8
    obtain ⟨rfl, N8q, K8, I8⟩ := hQ8
    have N8 := Fr.app N7 N8q
    have Z8 := Nat.le_trans Z0 K8.1
    obtain ⟨h8, e8⟩ : ∃ z, T8.heap = z := ⟨_, rfl⟩
    rw [e8] at K8 I8 Z8
    show OWp p e below s _ _ _ (T8.setTop (mkF m 32 #[.val (.ref a1), .val (.int (Int32.ofNat x)), .val (.int p2), .val (.int (2 : Int32)), .unset] [(.int (Int32.ofNat (oWith p2 1 (oLow S x) S).2)), (.ref a1)]))
    refine own_st (F' := T8.setTop (mkF m 33 #[.val (.ref a1), .val (.int (Int32.ofNat x)), .val (.int p2), .val (.int (2 : Int32)), .unset] [(.ref a1), (.int (Int32.ofNat (oWith p2 1 (oLow S x) S).2)), (.ref a1)])) (fun t_ kk => XS.aloadN X8.here hx rfl (hb hby d4_32) rfl rfl kk) ?_
    refine own_st (F' := T8.setTop (mkF m 34 #[.val (.ref a1), .val (.int (Int32.ofNat x)), .val (.int p2), .val (.int (2 : Int32)), .unset] [(.int (Int32.ofNat x)), (.ref a1), (.int (Int32.ofNat (oWith p2 1 (oLow S x) S).2)), (.ref a1)])) (fun t_ kk => XS.iloadN X8.here hx rfl (hb hby d4_33) rfl kk) ?_
    refine own_priv X8 hx hZ (y := (⟨"com/example/slackline/slackline/planning/FileOrderSets", "high", "(I)I"⟩ : MethodName)) hown (hw _ (List.mem_of_getElem? (i := 46) rfl)) (hw _ (List.mem_of_getElem? (i := 47) rfl)) (hw _ (List.mem_of_getElem? (i := 48) rfl)) (hw _ (List.mem_of_getElem? (i := 2) rfl)) (hw _ (List.mem_of_getElem? (i := 3) rfl)) (hw _ (List.mem_of_getElem? (i := 49) rfl)) I8.1 (rm8 l Z a0 hw [] a1 bl bh bt bs d (oWith p2 1 (oLow S x) S).1 x h8 n0 Z8 I8 (by omega)) (by decide) (W := 2) (argsL := [(.int (Int32.ofNat x))]) (rest := [(.int (Int32.ofNat (oWith p2 1 (oLow S x) S).2)), (.ref a1)]) (by decide) (by decide) (by rw [hml]; rfl) (lenOf own_pd0 rfl) rfl rfl (Nat.le_of_eq rfl) (hb hby d4_34) e8 (by decide) (by decide) ?_
    intro v9 T9 L9 hQ9 X9
    obtain ⟨rfl, N9q, e9⟩ := hQ9
    have N9 := Fr.app N8 N9q
    show OWp p e below s _ _ _ (T9.setTop (mkF m 37 #[.val (.ref a1), .val (.int (Int32.ofNat x)), .val (.int p2), .val (.int (2 : Int32)), .unset] [(.int (Int32.ofNat (oHigh (oWith p2 1 (oLow S x) S).1 x))), (.int (Int32.ofNat (oWith p2 1 (oLow S x) S).2)), (.ref a1)]))
    have hj1 := ok2
    have hj2 := oHigh_lt ok1 (x := x) (by omega)
    have hst1 : oSt (oWith p2 1 (oLow S x) S).1 < 64 := by rw [oWith_st]; exact hst
    refine own_priv X9 hx hZ (y := (⟨"com/example/slackline/slackline/planning/FileOrderSets", "join", "(II)I"⟩ : MethodName)) hown (hw _ (List.mem_of_getElem? (i := 50) rfl)) (hw _ (List.mem_of_getElem? (i := 51) rfl)) (hw _ (List.mem_of_getElem? (i := 52) rfl)) (hw _ (List.mem_of_getElem? (i := 2) rfl)) (hw _ (List.mem_of_getElem? (i := 3) rfl)) (hw _ (List.mem_of_getElem? (i := 53) rfl)) I8.1 (rm9 l Z a0 hw [] a1 bl bh bt bs d (oWith p2 1 (oLow S x) S).1 (oWith p2 1 (oLow S x) S).2 (oHigh (oWith p2 1 (oLow S x) S).1 x) h8 n0 Z8 I8 hg hdis ok1 (by omega) hst1 hj1 hj2) (by decide) (W := 0) (argsL := [(.int (Int32.ofNat (oWith p2 1 (oLow S x) S).2)), (.int (Int32.ofNat (oHigh (oWith p2 1 (oLow S x) S).1 x)))]) (rest := []) (by decide) (by decide) (by rw [hml]; rfl) (lenOf own_pd1 rfl) rfl rfl (Nat.le_of_eq rfl) (hb hby d4_37) e9 (by decide) (by decide) ?_
    intro v10 T10 L10 hQ10 X10
    obtain ⟨rfl, N10q, K10q, I10⟩ := hQ10
    have N10 := Fr.app N9 N10q
    have Z10 := Nat.le_trans Z8 K10q.1
    obtain ⟨h10, e10⟩ : ∃ z, T10.heap = z := ⟨_, rfl⟩
    rw [e10] at K10q I10 Z10
    have K10 := Keep.trans K8 K10q (fun y hy => Or.inl hy)
    show OWp p e below s _ _ _ (T10.setTop (mkF m 40 #[.val (.ref a1), .val (.int (Int32.ofNat x)), .val (.int p2), .val (.int (2 : Int32)), .unset] [(.int (Int32.ofNat (oJoin (oWith p2 1 (oLow S x) S).1 (oWith p2 1 (oLow S x) S).2 (oHigh (oWith p2 1 (oLow S x) S).1 x)).2))]))
    refine own_st (F' := T10.setTop (mkF m 42 #[.val (.ref a1), .val (.int (Int32.ofNat x)), .val (.int p2), .val (.int (2 : Int32)), .val (.int (Int32.ofNat (oJoin (oWith p2 1 (oLow S x) S).1 (oWith p2 1 (oLow S x) S).2 (oHigh (oWith p2 1 (oLow S x) S).1 x)).2))] [])) (fun t_ kk => XS.istore X10.here hx rfl (hb hby d4_40) rfl (l' := #[.val (.ref a1), .val (.int (Int32.ofNat x)), .val (.int p2), .val (.int (2 : Int32)), .val (.int (Int32.ofNat (oJoin (oWith p2 1 (oLow S x) S).1 (oWith p2 1 (oLow S x) S).2 (oHigh (oWith p2 1 (oLow S x) S).1 x)).2))]) rfl kk) ?_
    refine own_st (F' := T10.setTop (mkF m 69 #[.val (.ref a1), .val (.int (Int32.ofNat x)), .val (.int p2), .val (.int (2 : Int32)), .val (.int (Int32.ofNat (oJoin (oWith p2 1 (oLow S x) S).1 (oWith p2 1 (oLow S x) S).2 (oHigh (oWith p2 1 (oLow S x) S).1 x)).2))] [])) (fun t_ kk => XS.goto X10.here hx rfl (pc0 := 42) (pc' := 69) rfl (hb hby d4_42) (by decide) (by decide) kk) ?_
    refine own_st (F' := T10.setTop (mkF m 71 #[.val (.ref a1), .val (.int (Int32.ofNat x)), .val (.int p2), .val (.int (2 : Int32)), .val (.int (Int32.ofNat (oJoin (oWith p2 1 (oLow S x) S).1 (oWith p2 1 (oLow S x) S).2 (oHigh (oWith p2 1 (oLow S x) S).1 x)).2))] [(.int (Int32.ofNat (oJoin (oWith p2 1 (oLow S x) S).1 (oWith p2 1 (oLow S x) S).2 (oHigh (oWith p2 1 (oLow S x) S).1 x)).2))])) (fun t_ kk => XS.iload X10.here hx rfl (hb hby d4_69) rfl kk) ?_
    refine own_fin X10 (some (.int (Int32.ofNat (oJoin (oWith p2 1 (oLow S x) S).1 (oWith p2 1 (oLow S x) S).2 (oHigh (oWith p2 1 (oLow S x) S).1 x)).2))) (fun h => by rw [Bd.returns] at h; cases h) Bd.notSynchronized (by decide) (by decide) (fun fs hr => X10.ireturnOut hx (t := .int) Bd.returns rfl (Or.inl rfl) (hb hby d4_71) hr) ?_
    rw [e10]
    have hW := own_with_lo (x := x) (S := S) 1 (by simpa using hc2)
    show some (Value.int _) = some (Value.int (Int32.ofNat (oWith p2 (1 + 1) x S).2)) ∧ Fr n0 _ ∧ Keep h0 _ [a1, bl, bh, bt, bs] ∧ OFos Z _ a1 bl bh bt bs d (oWith p2 (1 + 1) x S).1
    rw [hW]; exact ⟨rfl, N10, K10, I10⟩

set_option maxRecDepth 65536 in
set_option maxHeartbeats 40000000 in
theorem rm4_3 (l : Launch) (Z : State) (a0 : Array Value) (hw : ∀ d ∈ tables_1, d.before a0 Z = true) (ws : List Jvm.Cond) (a1 bl bh bt bs : Addr) (d : Nat) (S : OSt) (x : Nat) (p2 : Int32) (h0 : Heap) (n0 : Nat) (Z0 : n0 ≤ h0.size) (I : OFos Z h0 a1 bl bh bt bs d S) (hg : n0 ≤ a1 ∧ n0 ≤ bl ∧ n0 ≤ bh ∧ n0 ≤ bt ∧ n0 ≤ bs) (hdis : ODis a1 bl bh bt bs) (hI : OInv S) (hc : oCn S + 3 ≤ 16) (hst : oSt S < 64) (hxc : x < oCn S) :
    MetFree l (⟨"com/example/slackline/slackline/planning/FileOrderSets", "with", "(III)I"⟩ : MethodName) (head1 (Jvm.Cond.code (⟨"com/example/slackline/slackline/planning/FileOrderSets", "with", "(III)I"⟩ : MethodName) prog_8_method_5_code 5 (some .int) :: ws) ({ frames := 5, cells := 0, slots := 0, locals := 84 } : Room)) (fun a U => a = #[(.ref a1), (.int (Int32.ofNat x)), (.int p2), (.int (3 : Int32))] ∧ Z.Warmed39 U.vm ∧ U.heap = h0) (fun _ _ _ _ _ => True) (fun _ U o U' => ∃ v L, o = .returned v ∧ Q4 Z a1 bl bh bt bs d S x p2 3 h0 n0 v U'.heap L ∧ FrameEnd U o U' L ({ frames := 5, cells := 0, slots := 0, locals := 84 } : Room).cells ({ frames := 5, cells := 0, slots := 0, locals := 84 } : Room).slots) := by
  refine MetFree.of_bodySF (plainFor_of_name pn_4) hisR ?_
  intro p e s m args below meth c s₁ Bd hml0 hP hK
  obtain ⟨rfl, hZ, hh⟩ := hP
  have hx := Bd.exec
  have hby := Bd.bytes
  have hml : c.maxLocals = 5 := hml0
  have hown : s.vm.findClass "com/example/slackline/slackline/planning/FileOrderSets" = some m.cls := findClass_of_methodNamed Bd.named
  have hnm := (name_of_methodNamed Bd.named Bd.method).1
  have X0 : Stand p l e ({ frames := 5, cells := 0, slots := 0, locals := 84 } : Room) s m #[(.ref a1), (.int (Int32.ofNat x)), (.int p2), (.int (3 : Int32))] below meth c s₁ [] 0 0 := Stand.of_body Bd
  have e0 : s₁.heap = h0 := by rw [← hh, Bd.state]; rfl
  have N0 := Fr.nil n0
  suffices hgoal : OWp p e below s ({ frames := 5, cells := 0, slots := 0, locals := 84 } : Room).cells ({ frames := 5, cells := 0, slots := 0, locals := 84 } : Room).slots (Q4 Z a1 bl bh bt bs d S x p2 3 h0 n0) (s₁.setTop (mkF m 0 #[.val (.ref a1), .val (.int (Int32.ofNat x)), .val (.int p2), .val (.int (3 : Int32)), .unset] [])) by
    rw [← ef_4] at hgoal; exact hgoal
  have I_ := I
  refine own_st (F' := s₁.setTop (mkF m 1 #[.val (.ref a1), .val (.int (Int32.ofNat x)), .val (.int p2), .val (.int (3 : Int32)), .unset] [(.int (3 : Int32))])) (fun t_ kk => XS.iloadN X0.here hx rfl (hb hby d4_0) rfl kk) ?_
  refine own_st (F' := s₁.setTop (mkF m 10 #[.val (.ref a1), .val (.int (Int32.ofNat x)), .val (.int p2), .val (.int (3 : Int32)), .unset] [])) (fun t_ kk => XS.ifYes X0.here hx rfl (pc0 := 1) (pc' := 10) rfl (hb hby d4_1) rfl ((if0 _ _).trans (feq (by decide : ¬ ((3 : Int32) = (0 : Int32)))).2) (by decide) (by decide) kk) ?_
  refine own_st (F' := s₁.setTop (mkF m 11 #[.val (.ref a1), .val (.int (Int32.ofNat x)), .val (.int p2), .val (.int (3 : Int32)), .unset] [(.int p2)])) (fun t_ kk => XS.iloadN X0.here hx rfl (hb hby d4_10) rfl kk) ?_
  refine own_st (F' := s₁.setTop (mkF m 12 #[.val (.ref a1), .val (.int (Int32.ofNat x)), .val (.int p2), .val (.int (3 : Int32)), .unset] [(.int (3 : Int32)), (.int p2)])) (fun t_ kk => XS.iloadN X0.here hx rfl (hb hby d4_11) rfl kk) ?_
  refine own_callS X0 hx hZ (y := (⟨"com/example/slackline/slackline/planning/FileOrderSets", "inLow", "(II)Z"⟩ : MethodName)) hown (hw _ (List.mem_of_getElem? (i := 39) rfl)) (hw _ (List.mem_of_getElem? (i := 40) rfl)) (hw _ (List.mem_of_getElem? (i := 3) rfl)) (hw _ (List.mem_of_getElem? (i := 41) rfl)) (rm6 l Z a0 hw [] p2 (3 : Int32) h0 n0 Z0) (by decide) (W := 0) (argsL := [(.int p2), (.int (3 : Int32))]) (rest := []) (by decide) (by decide) (by rw [hml]; rfl) (lenOf own_pd2 rfl) rfl rfl (Nat.le_of_eq rfl) (hb hby d4_12) e0 (by decide) (by decide) ?_
  intro v1 T1 L1 hQ1 X1
  obtain ⟨rfl, N1q, e1⟩ := hQ1
  have N1 := Fr.app N0 N1q
  show OWp p e below s _ _ _ (T1.setTop (mkF m 15 #[.val (.ref a1), .val (.int (Int32.ofNat x)), .val (.int p2), .val (.int (3 : Int32)), .unset] [(.int (oBit p2 (3 : Int32)))]))
  by_cases hc2 : oIsLow p2 3 = false
  · -- pc 15: oIsLow p2 3 = false
    refine own_st (F' := T1.setTop (mkF m 45 #[.val (.ref a1), .val (.int (Int32.ofNat x)), .val (.int p2), .val (.int (3 : Int32)), .unset] [])) (fun t_ kk => XS.ifYes X1.here hx rfl (pc0 := 15) (pc' := 45) rfl (hb hby d4_15) rfl ((if0 _ _).trans (teq ((own_bit p2 3).mpr hc2)).1) (by decide) (by decide) kk) ?_
    refine own_st (F' := T1.setTop (mkF m 46 #[.val (.ref a1), .val (.int (Int32.ofNat x)), .val (.int p2), .val (.int (3 : Int32)), .unset] [(.ref a1)])) (fun t_ kk => XS.aloadN X1.here hx rfl (hb hby d4_45) rfl rfl kk) ?_
    refine own_st (F' := T1.setTop (mkF m 47 #[.val (.ref a1), .val (.int (Int32.ofNat x)), .val (.int p2), .val (.int (3 : Int32)), .unset] [(.ref a1), (.ref a1)])) (fun t_ kk => XS.aloadN X1.here hx rfl (hb hby d4_46) rfl rfl kk) ?_
    refine own_st (F' := T1.setTop (mkF m 48 #[.val (.ref a1), .val (.int (Int32.ofNat x)), .val (.int p2), .val (.int (3 : Int32)), .unset] [(.int (Int32.ofNat x)), (.ref a1), (.ref a1)])) (fun t_ kk => XS.iloadN X1.here hx rfl (hb hby d4_47) rfl kk) ?_
    refine own_priv X1 hx hZ (y := (⟨"com/example/slackline/slackline/planning/FileOrderSets", "low", "(I)I"⟩ : MethodName)) hown (hw _ (List.mem_of_getElem? (i := 42) rfl)) (hw _ (List.mem_of_getElem? (i := 43) rfl)) (hw _ (List.mem_of_getElem? (i := 44) rfl)) (hw _ (List.mem_of_getElem? (i := 2) rfl)) (hw _ (List.mem_of_getElem? (i := 3) rfl)) (hw _ (List.mem_of_getElem? (i := 45) rfl)) I_.1 (rm7 l Z a0 hw [] a1 bl bh bt bs d S x h0 n0 Z0 I_ (by omega)) (by decide) (W := 1) (argsL := [(.int (Int32.ofNat x))]) (rest := [(.ref a1)]) (by decide) (by decide) (by rw [hml]; rfl) (lenOf own_pd0 rfl) rfl rfl (Nat.le_of_eq rfl) (hb hby d4_48) e1 (by decide) (by decide) ?_
    intro v3 T3 L3 hQ3 X3
    obtain ⟨rfl, N3q, e3⟩ := hQ3
    have N3 := Fr.app N1 N3q
    show OWp p e below s _ _ _ (T3.setTop (mkF m 51 #[.val (.ref a1), .val (.int (Int32.ofNat x)), .val (.int p2), .val (.int (3 : Int32)), .unset] [(.int (Int32.ofNat (oLow S x))), (.ref a1)]))
    refine own_st (F' := T3.setTop (mkF m 52 #[.val (.ref a1), .val (.int (Int32.ofNat x)), .val (.int p2), .val (.int (3 : Int32)), .unset] [(.ref a1), (.int (Int32.ofNat (oLow S x))), (.ref a1)])) (fun t_ kk => XS.aloadN X3.here hx rfl (hb hby d4_51) rfl rfl kk) ?_
    refine own_st (F' := T3.setTop (mkF m 53 #[.val (.ref a1), .val (.int (Int32.ofNat x)), .val (.int p2), .val (.int (3 : Int32)), .unset] [(.ref a1), (.ref a1), (.int (Int32.ofNat (oLow S x))), (.ref a1)])) (fun t_ kk => XS.aloadN X3.here hx rfl (hb hby d4_52) rfl rfl kk) ?_
    refine own_st (F' := T3.setTop (mkF m 54 #[.val (.ref a1), .val (.int (Int32.ofNat x)), .val (.int p2), .val (.int (3 : Int32)), .unset] [(.int (Int32.ofNat x)), (.ref a1), (.ref a1), (.int (Int32.ofNat (oLow S x))), (.ref a1)])) (fun t_ kk => XS.iloadN X3.here hx rfl (hb hby d4_53) rfl kk) ?_
    refine own_priv X3 hx hZ (y := (⟨"com/example/slackline/slackline/planning/FileOrderSets", "high", "(I)I"⟩ : MethodName)) hown (hw _ (List.mem_of_getElem? (i := 46) rfl)) (hw _ (List.mem_of_getElem? (i := 47) rfl)) (hw _ (List.mem_of_getElem? (i := 48) rfl)) (hw _ (List.mem_of_getElem? (i := 2) rfl)) (hw _ (List.mem_of_getElem? (i := 3) rfl)) (hw _ (List.mem_of_getElem? (i := 49) rfl)) I_.1 (rm8 l Z a0 hw [] a1 bl bh bt bs d S x h0 n0 Z0 I_ (by omega)) (by decide) (W := 3) (argsL := [(.int (Int32.ofNat x))]) (rest := [(.ref a1), (.int (Int32.ofNat (oLow S x))), (.ref a1)]) (by decide) (by decide) (by rw [hml]; rfl) (lenOf own_pd0 rfl) rfl rfl (Nat.le_of_eq rfl) (hb hby d4_54) e3 (by decide) (by decide) ?_
    intro v4 T4 L4 hQ4 X4
    obtain ⟨rfl, N4q, e4⟩ := hQ4
    have N4 := Fr.app N3 N4q
    show OWp p e below s _ _ _ (T4.setTop (mkF m 57 #[.val (.ref a1), .val (.int (Int32.ofNat x)), .val (.int p2), .val (.int (3 : Int32)), .unset] [(.int (Int32.ofNat (oHigh S x))), (.ref a1), (.int (Int32.ofNat (oLow S x))), (.ref a1)]))
    refine own_st (F' := T4.setTop (mkF m 58 #[.val (.ref a1), .val (.int (Int32.ofNat x)), .val (.int p2), .val (.int (3 : Int32)), .unset] [(.int p2), (.int (Int32.ofNat (oHigh S x))), (.ref a1), (.int (Int32.ofNat (oLow S x))), (.ref a1)])) (fun t_ kk => XS.iloadN X4.here hx rfl (hb hby d4_57) rfl kk) ?_
    refine own_st (F' := T4.setTop (mkF m 59 #[.val (.ref a1), .val (.int (Int32.ofNat x)), .val (.int p2), .val (.int (3 : Int32)), .unset] [(.int (3 : Int32)), (.int p2), (.int (Int32.ofNat (oHigh S x))), (.ref a1), (.int (Int32.ofNat (oLow S x))), (.ref a1)])) (fun t_ kk => XS.iloadN X4.here hx rfl (hb hby d4_58) rfl kk) ?_
    refine own_st (F' := T4.setTop (mkF m 60 #[.val (.ref a1), .val (.int (Int32.ofNat x)), .val (.int p2), .val (.int (3 : Int32)), .unset] [(.int (1 : Int32)), (.int (3 : Int32)), (.int p2), (.int (Int32.ofNat (oHigh S x))), (.ref a1), (.int (Int32.ofNat (oLow S x))), (.ref a1)])) (fun t_ kk => XS.iconst X4.here hx rfl (hb hby d4_59) kk) ?_
    refine own_st (F' := T4.setTop (mkF m 61 #[.val (.ref a1), .val (.int (Int32.ofNat x)), .val (.int p2), .val (.int (3 : Int32)), .unset] [(.int (2 : Int32)), (.int p2), (.int (Int32.ofNat (oHigh S x))), (.ref a1), (.int (Int32.ofNat (oLow S x))), (.ref a1)])) (fun t_ kk => XS.isub X4.here hx rfl (hb hby d4_60) rfl kk) ?_
    have hlt3 := oHigh_lt hI hxc
    obtain ⟨ok1, ok2, ok3, ok4⟩ := oWith_ok p2 2 (oHigh S x) S hI (by omega) hlt3
    refine own_priv X4 hx hZ (y := (⟨"com/example/slackline/slackline/planning/FileOrderSets", "with", "(III)I"⟩ : MethodName)) hown (hw _ (List.mem_of_getElem? (i := 30) rfl)) (hw _ (List.mem_of_getElem? (i := 31) rfl)) (hw _ (List.mem_of_getElem? (i := 32) rfl)) (hw _ (List.mem_of_getElem? (i := 2) rfl)) (hw _ (List.mem_of_getElem? (i := 3) rfl)) (hw _ (List.mem_of_getElem? (i := 33) rfl)) I_.1 (rm4_2 l Z a0 hw [] a1 bl bh bt bs d S (oHigh S x) p2 h0 n0 Z0 I_ hg hdis hI (by omega) hst hlt3) (by decide) (W := 2) (argsL := [(.int (Int32.ofNat (oHigh S x))), (.int p2), (.int (2 : Int32))]) (rest := [(.int (Int32.ofNat (oLow S x))), (.ref a1)]) (by decide) (by decide) (by rw [hml]; rfl) (lenOf own_pd3 rfl) rfl rfl (Nat.le_of_eq rfl) (hb hby d4_61) e4 (by decide) (by decide) ?_
    intro v5 T5 L5 hQ5 X5
    obtain ⟨rfl, N5q, K5, I5⟩ := hQ5
    have N5 := Fr.app N4 N5q
    have Z5 := Nat.le_trans Z0 K5.1
    obtain ⟨h5, e5⟩ : ∃ z, T5.heap = z := ⟨_, rfl⟩
    rw [e5] at K5 I5 Z5
    show OWp p e below s _ _ _ (T5.setTop (mkF m 64 #[.val (.ref a1), .val (.int (Int32.ofNat x)), .val (.int p2), .val (.int (3 : Int32)), .unset] [(.int (Int32.ofNat (oWith p2 2 (oHigh S x) S).2)), (.int (Int32.ofNat (oLow S x))), (.ref a1)]))
    have hj1 : oLow S x < oCn (oWith p2 2 (oHigh S x) S).1 := Nat.lt_of_lt_of_le (oLow_lt hI hxc) ok3
    have hj2 := ok2
    have hst1 : oSt (oWith p2 2 (oHigh S x) S).1 < 64 := by rw [oWith_st]; exact hst
    refine own_priv X5 hx hZ (y := (⟨"com/example/slackline/slackline/planning/FileOrderSets", "join", "(II)I"⟩ : MethodName)) hown (hw _ (List.mem_of_getElem? (i := 50) rfl)) (hw _ (List.mem_of_getElem? (i := 51) rfl)) (hw _ (List.mem_of_getElem? (i := 52) rfl)) (hw _ (List.mem_of_getElem? (i := 2) rfl)) (hw _ (List.mem_of_getElem? (i := 3) rfl)) (hw _ (List.mem_of_getElem? (i := 53) rfl)) I5.1 (rm9 l Z a0 hw [] a1 bl bh bt bs d (oWith p2 2 (oHigh S x) S).1 (oLow S x) (oWith p2 2 (oHigh S x) S).2 h5 n0 Z5 I5 hg hdis ok1 (by omega) hst1 hj1 hj2) (by decide) (W := 0) (argsL := [(.int (Int32.ofNat (oLow S x))), (.int (Int32.ofNat (oWith p2 2 (oHigh S x) S).2))]) (rest := []) (by decide) (by decide) (by rw [hml]; rfl) (lenOf own_pd1 rfl) rfl rfl (Nat.le_of_eq rfl) (hb hby d4_64) e5 (by decide) (by decide) ?_
    intro v6 T6 L6 hQ6 X6
    obtain ⟨rfl, N6q, K6q, I6⟩ := hQ6
    have N6 := Fr.app N5 N6q
    have Z6 := Nat.le_trans Z5 K6q.1
    obtain ⟨h6, e6⟩ : ∃ z, T6.heap = z := ⟨_, rfl⟩
    rw [e6] at K6q I6 Z6
    have K6 := Keep.trans K5 K6q (fun y hy => Or.inl hy)
    show OWp p e below s _ _ _ (T6.setTop (mkF m 67 #[.val (.ref a1), .val (.int (Int32.ofNat x)), .val (.int p2), .val (.int (3 : Int32)), .unset] [(.int (Int32.ofNat (oJoin (oWith p2 2 (oHigh S x) S).1 (oLow S x) (oWith p2 2 (oHigh S x) S).2).2))]))
    refine own_st (F' := T6.setTop (mkF m 69 #[.val (.ref a1), .val (.int (Int32.ofNat x)), .val (.int p2), .val (.int (3 : Int32)), .val (.int (Int32.ofNat (oJoin (oWith p2 2 (oHigh S x) S).1 (oLow S x) (oWith p2 2 (oHigh S x) S).2).2))] [])) (fun t_ kk => XS.istore X6.here hx rfl (hb hby d4_67) rfl (l' := #[.val (.ref a1), .val (.int (Int32.ofNat x)), .val (.int p2), .val (.int (3 : Int32)), .val (.int (Int32.ofNat (oJoin (oWith p2 2 (oHigh S x) S).1 (oLow S x) (oWith p2 2 (oHigh S x) S).2).2))]) rfl kk) ?_
    refine own_st (F' := T6.setTop (mkF m 71 #[.val (.ref a1), .val (.int (Int32.ofNat x)), .val (.int p2), .val (.int (3 : Int32)), .val (.int (Int32.ofNat (oJoin (oWith p2 2 (oHigh S x) S).1 (oLow S x) (oWith p2 2 (oHigh S x) S).2).2))] [(.int (Int32.ofNat (oJoin (oWith p2 2 (oHigh S x) S).1 (oLow S x) (oWith p2 2 (oHigh S x) S).2).2))])) (fun t_ kk => XS.iload X6.here hx rfl (hb hby d4_69) rfl kk) ?_
    refine own_fin X6 (some (.int (Int32.ofNat (oJoin (oWith p2 2 (oHigh S x) S).1 (oLow S x) (oWith p2 2 (oHigh S x) S).2).2))) (fun h => by rw [Bd.returns] at h; cases h) Bd.notSynchronized (by decide) (by decide) (fun fs hr => X6.ireturnOut hx (t := .int) Bd.returns rfl (Or.inl rfl) (hb hby d4_71) hr) ?_
    rw [e6]
    have hW := own_with_hi (x := x) (S := S) 2 hc2
    show some (Value.int _) = some (Value.int (Int32.ofNat (oWith p2 (2 + 1) x S).2)) ∧ Fr n0 _ ∧ Keep h0 _ [a1, bl, bh, bt, bs] ∧ OFos Z _ a1 bl bh bt bs d (oWith p2 (2 + 1) x S).1
    rw [hW]; exact ⟨rfl, N6, K6, I6⟩
  · -- pc 15: not oIsLow p2 3 = false
    refine own_st (F' := T1.setTop (mkF m 18 #[.val (.ref a1), .val (.int (Int32.ofNat x)), .val (.int p2), .val (.int (3 : Int32)), .unset] [])) (fun t_ kk => XS.ifNo X1.here hx rfl (hb hby d4_15) rfl ((if0 _ _).trans (feq (fun z => hc2 ((own_bit p2 3).mp z))).1) kk) ?_
    refine own_st (F' := T1.setTop (mkF m 19 #[.val (.ref a1), .val (.int (Int32.ofNat x)), .val (.int p2), .val (.int (3 : Int32)), .unset] [(.ref a1)])) (fun t_ kk => XS.aloadN X1.here hx rfl (hb hby d4_18) rfl rfl kk) ?_
    refine own_st (F' := T1.setTop (mkF m 20 #[.val (.ref a1), .val (.int (Int32.ofNat x)), .val (.int p2), .val (.int (3 : Int32)), .unset] [(.ref a1), (.ref a1)])) (fun t_ kk => XS.aloadN X1.here hx rfl (hb hby d4_19) rfl rfl kk) ?_
    refine own_st (F' := T1.setTop (mkF m 21 #[.val (.ref a1), .val (.int (Int32.ofNat x)), .val (.int p2), .val (.int (3 : Int32)), .unset] [(.ref a1), (.ref a1), (.ref a1)])) (fun t_ kk => XS.aloadN X1.here hx rfl (hb hby d4_20) rfl rfl kk) ?_
    refine own_st (F' := T1.setTop (mkF m 22 #[.val (.ref a1), .val (.int (Int32.ofNat x)), .val (.int p2), .val (.int (3 : Int32)), .unset] [(.int (Int32.ofNat x)), (.ref a1), (.ref a1), (.ref a1)])) (fun t_ kk => XS.iloadN X1.here hx rfl (hb hby d4_21) rfl kk) ?_
    refine own_priv X1 hx hZ (y := (⟨"com/example/slackline/slackline/planning/FileOrderSets", "low", "(I)I"⟩ : MethodName)) hown (hw _ (List.mem_of_getElem? (i := 42) rfl)) (hw _ (List.mem_of_getElem? (i := 43) rfl)) (hw _ (List.mem_of_getElem? (i := 44) rfl)) (hw _ (List.mem_of_getElem? (i := 2) rfl)) (hw _ (List.mem_of_getElem? (i := 3) rfl)) (hw _ (List.mem_of_getElem? (i := 45) rfl)) I_.1 (rm7 l Z a0 hw [] a1 bl bh bt bs d S x h0 n0 Z0 I_ (by omega)) (by decide) (W := 2) (argsL := [(.int (Int32.ofNat x))]) (rest := [(.ref a1), (.ref a1)]) (by decide) (by decide) (by rw [hml]; rfl) (lenOf own_pd0 rfl) rfl rfl (Nat.le_of_eq rfl) (hb hby d4_22) e1 (by decide) (by decide) ?_
    intro v7 T7 L7 hQ7 X7
    obtain ⟨rfl, N7q, e7⟩ := hQ7
    have N7 := Fr.app N1 N7q
    show OWp p e below s _ _ _ (T7.setTop (mkF m 25 #[.val (.ref a1), .val (.int (Int32.ofNat x)), .val (.int p2), .val (.int (3 : Int32)), .unset] [(.int (Int32.ofNat (oLow S x))), (.ref a1), (.ref a1)]))
    refine own_st (F' := T7.setTop (mkF m 26 #[.val (.ref a1), .val (.int (Int32.ofNat x)), .val (.int p2), .val (.int (3 : Int32)), .unset] [(.int p2), (.int (Int32.ofNat (oLow S x))), (.ref a1), (.ref a1)])) (fun t_ kk => XS.iloadN X7.here hx rfl (hb hby d4_25) rfl kk) ?_
    refine own_st (F' := T7.setTop (mkF m 27 #[.val (.ref a1), .val (.int (Int32.ofNat x)), .val (.int p2), .val (.int (3 : Int32)), .unset] [(.int (3 : Int32)), (.int p2), (.int (Int32.ofNat (oLow S x))), (.ref a1), (.ref a1)])) (fun t_ kk => XS.iloadN X7.here hx rfl (hb hby d4_26) rfl kk) ?_
    refine own_st (F' := T7.setTop (mkF m 28 #[.val (.ref a1), .val (.int (Int32.ofNat x)), .val (.int p2), .val (.int (3 : Int32)), .unset] [(.int (1 : Int32)), (.int (3 : Int32)), (.int p2), (.int (Int32.ofNat (oLow S x))), (.ref a1), (.ref a1)])) (fun t_ kk => XS.iconst X7.here hx rfl (hb hby d4_27) kk) ?_
    refine own_st (F' := T7.setTop (mkF m 29 #[.val (.ref a1), .val (.int (Int32.ofNat x)), .val (.int p2), .val (.int (3 : Int32)), .unset] [(.int (2 : Int32)), (.int p2), (.int (Int32.ofNat (oLow S x))), (.ref a1), (.ref a1)])) (fun t_ kk => XS.isub X7.here hx rfl (hb hby d4_28) rfl kk) ?_
    have hlt3 := oLow_lt hI hxc
    obtain ⟨ok1, ok2, ok3, ok4⟩ := oWith_ok p2 2 (oLow S x) S hI (by omega) hlt3
    refine own_priv X7 hx hZ (y := (⟨"com/example/slackline/slackline/planning/FileOrderSets", "with", "(III)I"⟩ : MethodName)) hown (hw _ (List.mem_of_getElem? (i := 30) rfl)) (hw _ (List.mem_of_getElem? (i := 31) rfl)) (hw _ (List.mem_of_getElem? (i := 32) rfl)) (hw _ (List.mem_of_getElem? (i := 2) rfl)) (hw _ (List.mem_of_getElem? (i := 3) rfl)) (hw _ (List.mem_of_getElem? (i := 33) rfl)) I_.1 (rm4_2 l Z a0 hw [] a1 bl bh bt bs d S (oLow S x) p2 h0 n0 Z0 I_ hg hdis hI (by omega) hst hlt3) (by decide) (W := 1) (argsL := [(.int (Int32.ofNat (oLow S x))), (.int p2), (.int (2 : Int32))]) (rest := [(.ref a1)]) (by decide) (by decide) (by rw [hml]; rfl) (lenOf own_pd3 rfl) rfl rfl (Nat.le_of_eq rfl) (hb hby d4_29) e7 (by decide) (by decide) ?_
    intro v8 T8 L8 hQ8 X8
    obtain ⟨rfl, N8q, K8, I8⟩ := hQ8
    have N8 := Fr.app N7 N8q
    have Z8 := Nat.le_trans Z0 K8.1
    obtain ⟨h8, e8⟩ : ∃ z, T8.heap = z := ⟨_, rfl⟩
    rw [e8] at K8 I8 Z8
    show OWp p e below s _ _ _ (T8.setTop (mkF m 32 #[.val (.ref a1), .val (.int (Int32.ofNat x)), .val (.int p2), .val (.int (3 : Int32)), .unset] [(.int (Int32.ofNat (oWith p2 2 (oLow S x) S).2)), (.ref a1)]))
    refine own_st (F' := T8.setTop (mkF m 33 #[.val (.ref a1), .val (.int (Int32.ofNat x)), .val (.int p2), .val (.int (3 : Int32)), .unset] [(.ref a1), (.int (Int32.ofNat (oWith p2 2 (oLow S x) S).2)), (.ref a1)])) (fun t_ kk => XS.aloadN X8.here hx rfl (hb hby d4_32) rfl rfl kk) ?_
    refine own_st (F' := T8.setTop (mkF m 34 #[.val (.ref a1), .val (.int (Int32.ofNat x)), .val (.int p2), .val (.int (3 : Int32)), .unset] [(.int (Int32.ofNat x)), (.ref a1), (.int (Int32.ofNat (oWith p2 2 (oLow S x) S).2)), (.ref a1)])) (fun t_ kk => XS.iloadN X8.here hx rfl (hb hby d4_33) rfl kk) ?_
    refine own_priv X8 hx hZ (y := (⟨"com/example/slackline/slackline/planning/FileOrderSets", "high", "(I)I"⟩ : MethodName)) hown (hw _ (List.mem_of_getElem? (i := 46) rfl)) (hw _ (List.mem_of_getElem? (i := 47) rfl)) (hw _ (List.mem_of_getElem? (i := 48) rfl)) (hw _ (List.mem_of_getElem? (i := 2) rfl)) (hw _ (List.mem_of_getElem? (i := 3) rfl)) (hw _ (List.mem_of_getElem? (i := 49) rfl)) I8.1 (rm8 l Z a0 hw [] a1 bl bh bt bs d (oWith p2 2 (oLow S x) S).1 x h8 n0 Z8 I8 (by omega)) (by decide) (W := 2) (argsL := [(.int (Int32.ofNat x))]) (rest := [(.int (Int32.ofNat (oWith p2 2 (oLow S x) S).2)), (.ref a1)]) (by decide) (by decide) (by rw [hml]; rfl) (lenOf own_pd0 rfl) rfl rfl (Nat.le_of_eq rfl) (hb hby d4_34) e8 (by decide) (by decide) ?_
    intro v9 T9 L9 hQ9 X9
    obtain ⟨rfl, N9q, e9⟩ := hQ9
    have N9 := Fr.app N8 N9q
    show OWp p e below s _ _ _ (T9.setTop (mkF m 37 #[.val (.ref a1), .val (.int (Int32.ofNat x)), .val (.int p2), .val (.int (3 : Int32)), .unset] [(.int (Int32.ofNat (oHigh (oWith p2 2 (oLow S x) S).1 x))), (.int (Int32.ofNat (oWith p2 2 (oLow S x) S).2)), (.ref a1)]))
    have hj1 := ok2
    have hj2 := oHigh_lt ok1 (x := x) (by omega)
    have hst1 : oSt (oWith p2 2 (oLow S x) S).1 < 64 := by rw [oWith_st]; exact hst
    refine own_priv X9 hx hZ (y := (⟨"com/example/slackline/slackline/planning/FileOrderSets", "join", "(II)I"⟩ : MethodName)) hown (hw _ (List.mem_of_getElem? (i := 50) rfl)) (hw _ (List.mem_of_getElem? (i := 51) rfl)) (hw _ (List.mem_of_getElem? (i := 52) rfl)) (hw _ (List.mem_of_getElem? (i := 2) rfl)) (hw _ (List.mem_of_getElem? (i := 3) rfl)) (hw _ (List.mem_of_getElem? (i := 53) rfl)) I8.1 (rm9 l Z a0 hw [] a1 bl bh bt bs d (oWith p2 2 (oLow S x) S).1 (oWith p2 2 (oLow S x) S).2 (oHigh (oWith p2 2 (oLow S x) S).1 x) h8 n0 Z8 I8 hg hdis ok1 (by omega) hst1 hj1 hj2) (by decide) (W := 0) (argsL := [(.int (Int32.ofNat (oWith p2 2 (oLow S x) S).2)), (.int (Int32.ofNat (oHigh (oWith p2 2 (oLow S x) S).1 x)))]) (rest := []) (by decide) (by decide) (by rw [hml]; rfl) (lenOf own_pd1 rfl) rfl rfl (Nat.le_of_eq rfl) (hb hby d4_37) e9 (by decide) (by decide) ?_
    intro v10 T10 L10 hQ10 X10
    obtain ⟨rfl, N10q, K10q, I10⟩ := hQ10
    have N10 := Fr.app N9 N10q
    have Z10 := Nat.le_trans Z8 K10q.1
    obtain ⟨h10, e10⟩ : ∃ z, T10.heap = z := ⟨_, rfl⟩
    rw [e10] at K10q I10 Z10
    have K10 := Keep.trans K8 K10q (fun y hy => Or.inl hy)
    show OWp p e below s _ _ _ (T10.setTop (mkF m 40 #[.val (.ref a1), .val (.int (Int32.ofNat x)), .val (.int p2), .val (.int (3 : Int32)), .unset] [(.int (Int32.ofNat (oJoin (oWith p2 2 (oLow S x) S).1 (oWith p2 2 (oLow S x) S).2 (oHigh (oWith p2 2 (oLow S x) S).1 x)).2))]))
    refine own_st (F' := T10.setTop (mkF m 42 #[.val (.ref a1), .val (.int (Int32.ofNat x)), .val (.int p2), .val (.int (3 : Int32)), .val (.int (Int32.ofNat (oJoin (oWith p2 2 (oLow S x) S).1 (oWith p2 2 (oLow S x) S).2 (oHigh (oWith p2 2 (oLow S x) S).1 x)).2))] [])) (fun t_ kk => XS.istore X10.here hx rfl (hb hby d4_40) rfl (l' := #[.val (.ref a1), .val (.int (Int32.ofNat x)), .val (.int p2), .val (.int (3 : Int32)), .val (.int (Int32.ofNat (oJoin (oWith p2 2 (oLow S x) S).1 (oWith p2 2 (oLow S x) S).2 (oHigh (oWith p2 2 (oLow S x) S).1 x)).2))]) rfl kk) ?_
    refine own_st (F' := T10.setTop (mkF m 69 #[.val (.ref a1), .val (.int (Int32.ofNat x)), .val (.int p2), .val (.int (3 : Int32)), .val (.int (Int32.ofNat (oJoin (oWith p2 2 (oLow S x) S).1 (oWith p2 2 (oLow S x) S).2 (oHigh (oWith p2 2 (oLow S x) S).1 x)).2))] [])) (fun t_ kk => XS.goto X10.here hx rfl (pc0 := 42) (pc' := 69) rfl (hb hby d4_42) (by decide) (by decide) kk) ?_
    refine own_st (F' := T10.setTop (mkF m 71 #[.val (.ref a1), .val (.int (Int32.ofNat x)), .val (.int p2), .val (.int (3 : Int32)), .val (.int (Int32.ofNat (oJoin (oWith p2 2 (oLow S x) S).1 (oWith p2 2 (oLow S x) S).2 (oHigh (oWith p2 2 (oLow S x) S).1 x)).2))] [(.int (Int32.ofNat (oJoin (oWith p2 2 (oLow S x) S).1 (oWith p2 2 (oLow S x) S).2 (oHigh (oWith p2 2 (oLow S x) S).1 x)).2))])) (fun t_ kk => XS.iload X10.here hx rfl (hb hby d4_69) rfl kk) ?_
    refine own_fin X10 (some (.int (Int32.ofNat (oJoin (oWith p2 2 (oLow S x) S).1 (oWith p2 2 (oLow S x) S).2 (oHigh (oWith p2 2 (oLow S x) S).1 x)).2))) (fun h => by rw [Bd.returns] at h; cases h) Bd.notSynchronized (by decide) (by decide) (fun fs hr => X10.ireturnOut hx (t := .int) Bd.returns rfl (Or.inl rfl) (hb hby d4_71) hr) ?_
    rw [e10]
    have hW := own_with_lo (x := x) (S := S) 2 (by simpa using hc2)
    show some (Value.int _) = some (Value.int (Int32.ofNat (oWith p2 (2 + 1) x S).2)) ∧ Fr n0 _ ∧ Keep h0 _ [a1, bl, bh, bt, bs] ∧ OFos Z _ a1 bl bh bt bs d (oWith p2 (2 + 1) x S).1
    rw [hW]; exact ⟨rfl, N10, K10, I10⟩

set_option maxRecDepth 65536 in
set_option maxHeartbeats 40000000 in
theorem rm4_4 (l : Launch) (Z : State) (a0 : Array Value) (hw : ∀ d ∈ tables_1, d.before a0 Z = true) (ws : List Jvm.Cond) (a1 bl bh bt bs : Addr) (d : Nat) (S : OSt) (x : Nat) (p2 : Int32) (h0 : Heap) (n0 : Nat) (Z0 : n0 ≤ h0.size) (I : OFos Z h0 a1 bl bh bt bs d S) (hg : n0 ≤ a1 ∧ n0 ≤ bl ∧ n0 ≤ bh ∧ n0 ≤ bt ∧ n0 ≤ bs) (hdis : ODis a1 bl bh bt bs) (hI : OInv S) (hc : oCn S + 4 ≤ 16) (hst : oSt S < 64) (hxc : x < oCn S) :
    MetFree l (⟨"com/example/slackline/slackline/planning/FileOrderSets", "with", "(III)I"⟩ : MethodName) (head1 (Jvm.Cond.code (⟨"com/example/slackline/slackline/planning/FileOrderSets", "with", "(III)I"⟩ : MethodName) prog_8_method_5_code 5 (some .int) :: ws) ({ frames := 6, cells := 0, slots := 0, locals := 102 } : Room)) (fun a U => a = #[(.ref a1), (.int (Int32.ofNat x)), (.int p2), (.int (4 : Int32))] ∧ Z.Warmed39 U.vm ∧ U.heap = h0) (fun _ _ _ _ _ => True) (fun _ U o U' => ∃ v L, o = .returned v ∧ Q4 Z a1 bl bh bt bs d S x p2 4 h0 n0 v U'.heap L ∧ FrameEnd U o U' L ({ frames := 6, cells := 0, slots := 0, locals := 102 } : Room).cells ({ frames := 6, cells := 0, slots := 0, locals := 102 } : Room).slots) := by
  refine MetFree.of_bodySF (plainFor_of_name pn_4) hisR ?_
  intro p e s m args below meth c s₁ Bd hml0 hP hK
  obtain ⟨rfl, hZ, hh⟩ := hP
  have hx := Bd.exec
  have hby := Bd.bytes
  have hml : c.maxLocals = 5 := hml0
  have hown : s.vm.findClass "com/example/slackline/slackline/planning/FileOrderSets" = some m.cls := findClass_of_methodNamed Bd.named
  have hnm := (name_of_methodNamed Bd.named Bd.method).1
  have X0 : Stand p l e ({ frames := 6, cells := 0, slots := 0, locals := 102 } : Room) s m #[(.ref a1), (.int (Int32.ofNat x)), (.int p2), (.int (4 : Int32))] below meth c s₁ [] 0 0 := Stand.of_body Bd
  have e0 : s₁.heap = h0 := by rw [← hh, Bd.state]; rfl
  have N0 := Fr.nil n0
  suffices hgoal : OWp p e below s ({ frames := 6, cells := 0, slots := 0, locals := 102 } : Room).cells ({ frames := 6, cells := 0, slots := 0, locals := 102 } : Room).slots (Q4 Z a1 bl bh bt bs d S x p2 4 h0 n0) (s₁.setTop (mkF m 0 #[.val (.ref a1), .val (.int (Int32.ofNat x)), .val (.int p2), .val (.int (4 : Int32)), .unset] [])) by
    rw [← ef_4] at hgoal; exact hgoal
  have I_ := I
  refine own_st (F' := s₁.setTop (mkF m 1 #[.val (.ref a1), .val (.int (Int32.ofNat x)), .val (.int p2), .val (.int (4 : Int32)), .unset] [(.int (4 : Int32))])) (fun t_ kk => XS.iloadN X0.here hx rfl (hb hby d4_0) rfl kk) ?_
  refine own_st (F' := s₁.setTop (mkF m 10 #[.val (.ref a1), .val (.int (Int32.ofNat x)), .val (.int p2), .val (.int (4 : Int32)), .unset] [])) (fun t_ kk => XS.ifYes X0.here hx rfl (pc0 := 1) (pc' := 10) rfl (hb hby d4_1) rfl ((if0 _ _).trans (feq (by decide : ¬ ((4 : Int32) = (0 : Int32)))).2) (by decide) (by decide) kk) ?_
  refine own_st (F' := s₁.setTop (mkF m 11 #[.val (.ref a1), .val (.int (Int32.ofNat x)), .val (.int p2), .val (.int (4 : Int32)), .unset] [(.int p2)])) (fun t_ kk => XS.iloadN X0.here hx rfl (hb hby d4_10) rfl kk) ?_
  refine own_st (F' := s₁.setTop (mkF m 12 #[.val (.ref a1), .val (.int (Int32.ofNat x)), .val (.int p2), .val (.int (4 : Int32)), .unset] [(.int (4 : Int32)), (.int p2)])) (fun t_ kk => XS.iloadN X0.here hx rfl (hb hby d4_11) rfl kk) ?_
  refine own_callS X0 hx hZ (y := (⟨"com/example/slackline/slackline/planning/FileOrderSets", "inLow", "(II)Z"⟩ : MethodName)) hown (hw _ (List.mem_of_getElem? (i := 39) rfl)) (hw _ (List.mem_of_getElem? (i := 40) rfl)) (hw _ (List.mem_of_getElem? (i := 3) rfl)) (hw _ (List.mem_of_getElem? (i := 41) rfl)) (rm6 l Z a0 hw [] p2 (4 : Int32) h0 n0 Z0) (by decide) (W := 0) (argsL := [(.int p2), (.int (4 : Int32))]) (rest := []) (by decide) (by decide) (by rw [hml]; rfl) (lenOf own_pd2 rfl) rfl rfl (Nat.le_of_eq rfl) (hb hby d4_12) e0 (by decide) (by decide) ?_
  intro v1 T1 L1 hQ1 X1
  obtain ⟨rfl, N1q, e1⟩ := hQ1
  have N1 := Fr.app N0 N1q
  show OWp p e below s _ _ _ (T1.setTop (mkF m 15 #[.val (.ref a1), .val (.int (Int32.ofNat x)), .val (.int p2), .val (.int (4 : Int32)), .unset] [(.int (oBit p2 (4 : Int32)))]))
  by_cases hc2 : oIsLow p2 4 = false
  · -- pc 15: oIsLow p2 4 = false
    refine own_st (F' := T1.setTop (mkF m 45 #[.val (.ref a1), .val (.int (Int32.ofNat x)), .val (.int p2), .val (.int (4 : Int32)), .unset] [])) (fun t_ kk => XS.ifYes X1.here hx rfl (pc0 := 15) (pc' := 45) rfl (hb hby d4_15) rfl ((if0 _ _).trans (teq ((own_bit p2 4).mpr hc2)).1) (by decide) (by decide) kk) ?_
    refine own_st (F' := T1.setTop (mkF m 46 #[.val (.ref a1), .val (.int (Int32.ofNat x)), .val (.int p2), .val (.int (4 : Int32)), .unset] [(.ref a1)])) (fun t_ kk => XS.aloadN X1.here hx rfl (hb hby d4_45) rfl rfl kk) ?_
    refine own_st (F' := T1.setTop (mkF m 47 #[.val (.ref a1), .val (.int (Int32.ofNat x)), .val (.int p2), .val (.int (4 : Int32)), .unset] [(.ref a1), (.ref a1)])) (fun t_ kk => XS.aloadN X1.here hx rfl (hb hby d4_46) rfl rfl kk) ?_
    refine own_st (F' := T1.setTop (mkF m 48 #[.val (.ref a1), .val (.int (Int32.ofNat x)), .val (.int p2), .val (.int (4 : Int32)), .unset] [(.int (Int32.ofNat x)), (.ref a1), (.ref a1)])) (fun t_ kk => XS.iloadN X1.here hx rfl (hb hby d4_47) rfl kk) ?_
    refine own_priv X1 hx hZ (y := (⟨"com/example/slackline/slackline/planning/FileOrderSets", "low", "(I)I"⟩ : MethodName)) hown (hw _ (List.mem_of_getElem? (i := 42) rfl)) (hw _ (List.mem_of_getElem? (i := 43) rfl)) (hw _ (List.mem_of_getElem? (i := 44) rfl)) (hw _ (List.mem_of_getElem? (i := 2) rfl)) (hw _ (List.mem_of_getElem? (i := 3) rfl)) (hw _ (List.mem_of_getElem? (i := 45) rfl)) I_.1 (rm7 l Z a0 hw [] a1 bl bh bt bs d S x h0 n0 Z0 I_ (by omega)) (by decide) (W := 1) (argsL := [(.int (Int32.ofNat x))]) (rest := [(.ref a1)]) (by decide) (by decide) (by rw [hml]; rfl) (lenOf own_pd0 rfl) rfl rfl (Nat.le_of_eq rfl) (hb hby d4_48) e1 (by decide) (by decide) ?_
    intro v3 T3 L3 hQ3 X3
    obtain ⟨rfl, N3q, e3⟩ := hQ3
    have N3 := Fr.app N1 N3q
    show OWp p e below s _ _ _ (T3.setTop (mkF m 51 #[.val (.ref a1), .val (.int (Int32.ofNat x)), .val (.int p2), .val (.int (4 : Int32)), .unset] [(.int (Int32.ofNat (oLow S x))), (.ref a1)]))
    refine own_st (F' := T3.setTop (mkF m 52 #[.val (.ref a1), .val (.int (Int32.ofNat x)), .val (.int p2), .val (.int (4 : Int32)), .unset] [(.ref a1), (.int (Int32.ofNat (oLow S x))), (.ref a1)])) (fun t_ kk => XS.aloadN X3.here hx rfl (hb hby d4_51) rfl rfl kk) ?_
    refine own_st (F' := T3.setTop (mkF m 53 #[.val (.ref a1), .val (.int (Int32.ofNat x)), .val (.int p2), .val (.int (4 : Int32)), .unset] [(.ref a1), (.ref a1), (.int (Int32.ofNat (oLow S x))), (.ref a1)])) (fun t_ kk => XS.aloadN X3.here hx rfl (hb hby d4_52) rfl rfl kk) ?_
    refine own_st (F' := T3.setTop (mkF m 54 #[.val (.ref a1), .val (.int (Int32.ofNat x)), .val (.int p2), .val (.int (4 : Int32)), .unset] [(.int (Int32.ofNat x)), (.ref a1), (.ref a1), (.int (Int32.ofNat (oLow S x))), (.ref a1)])) (fun t_ kk => XS.iloadN X3.here hx rfl (hb hby d4_53) rfl kk) ?_
    refine own_priv X3 hx hZ (y := (⟨"com/example/slackline/slackline/planning/FileOrderSets", "high", "(I)I"⟩ : MethodName)) hown (hw _ (List.mem_of_getElem? (i := 46) rfl)) (hw _ (List.mem_of_getElem? (i := 47) rfl)) (hw _ (List.mem_of_getElem? (i := 48) rfl)) (hw _ (List.mem_of_getElem? (i := 2) rfl)) (hw _ (List.mem_of_getElem? (i := 3) rfl)) (hw _ (List.mem_of_getElem? (i := 49) rfl)) I_.1 (rm8 l Z a0 hw [] a1 bl bh bt bs d S x h0 n0 Z0 I_ (by omega)) (by decide) (W := 3) (argsL := [(.int (Int32.ofNat x))]) (rest := [(.ref a1), (.int (Int32.ofNat (oLow S x))), (.ref a1)]) (by decide) (by decide) (by rw [hml]; rfl) (lenOf own_pd0 rfl) rfl rfl (Nat.le_of_eq rfl) (hb hby d4_54) e3 (by decide) (by decide) ?_
    intro v4 T4 L4 hQ4 X4
    obtain ⟨rfl, N4q, e4⟩ := hQ4
    have N4 := Fr.app N3 N4q
    show OWp p e below s _ _ _ (T4.setTop (mkF m 57 #[.val (.ref a1), .val (.int (Int32.ofNat x)), .val (.int p2), .val (.int (4 : Int32)), .unset] [(.int (Int32.ofNat (oHigh S x))), (.ref a1), (.int (Int32.ofNat (oLow S x))), (.ref a1)]))
    refine own_st (F' := T4.setTop (mkF m 58 #[.val (.ref a1), .val (.int (Int32.ofNat x)), .val (.int p2), .val (.int (4 : Int32)), .unset] [(.int p2), (.int (Int32.ofNat (oHigh S x))), (.ref a1), (.int (Int32.ofNat (oLow S x))), (.ref a1)])) (fun t_ kk => XS.iloadN X4.here hx rfl (hb hby d4_57) rfl kk) ?_
    refine own_st (F' := T4.setTop (mkF m 59 #[.val (.ref a1), .val (.int (Int32.ofNat x)), .val (.int p2), .val (.int (4 : Int32)), .unset] [(.int (4 : Int32)), (.int p2), (.int (Int32.ofNat (oHigh S x))), (.ref a1), (.int (Int32.ofNat (oLow S x))), (.ref a1)])) (fun t_ kk => XS.iloadN X4.here hx rfl (hb hby d4_58) rfl kk) ?_
    refine own_st (F' := T4.setTop (mkF m 60 #[.val (.ref a1), .val (.int (Int32.ofNat x)), .val (.int p2), .val (.int (4 : Int32)), .unset] [(.int (1 : Int32)), (.int (4 : Int32)), (.int p2), (.int (Int32.ofNat (oHigh S x))), (.ref a1), (.int (Int32.ofNat (oLow S x))), (.ref a1)])) (fun t_ kk => XS.iconst X4.here hx rfl (hb hby d4_59) kk) ?_
    refine own_st (F' := T4.setTop (mkF m 61 #[.val (.ref a1), .val (.int (Int32.ofNat x)), .val (.int p2), .val (.int (4 : Int32)), .unset] [(.int (3 : Int32)), (.int p2), (.int (Int32.ofNat (oHigh S x))), (.ref a1), (.int (Int32.ofNat (oLow S x))), (.ref a1)])) (fun t_ kk => XS.isub X4.here hx rfl (hb hby d4_60) rfl kk) ?_
    have hlt4 := oHigh_lt hI hxc
    obtain ⟨ok1, ok2, ok3, ok4⟩ := oWith_ok p2 3 (oHigh S x) S hI (by omega) hlt4
    refine own_priv X4 hx hZ (y := (⟨"com/example/slackline/slackline/planning/FileOrderSets", "with", "(III)I"⟩ : MethodName)) hown (hw _ (List.mem_of_getElem? (i := 30) rfl)) (hw _ (List.mem_of_getElem? (i := 31) rfl)) (hw _ (List.mem_of_getElem? (i := 32) rfl)) (hw _ (List.mem_of_getElem? (i := 2) rfl)) (hw _ (List.mem_of_getElem? (i := 3) rfl)) (hw _ (List.mem_of_getElem? (i := 33) rfl)) I_.1 (rm4_3 l Z a0 hw [] a1 bl bh bt bs d S (oHigh S x) p2 h0 n0 Z0 I_ hg hdis hI (by omega) hst hlt4) (by decide) (W := 2) (argsL := [(.int (Int32.ofNat (oHigh S x))), (.int p2), (.int (3 : Int32))]) (rest := [(.int (Int32.ofNat (oLow S x))), (.ref a1)]) (by decide) (by decide) (by rw [hml]; rfl) (lenOf own_pd3 rfl) rfl rfl (Nat.le_of_eq rfl) (hb hby d4_61) e4 (by decide) (by decide) ?_
    intro v5 T5 L5 hQ5 X5
    obtain ⟨rfl, N5q, K5, I5⟩ := hQ5
    have N5 := Fr.app N4 N5q
    have Z5 := Nat.le_trans Z0 K5.1
    obtain ⟨h5, e5⟩ : ∃ z, T5.heap = z := ⟨_, rfl⟩
    rw [e5] at K5 I5 Z5
    show OWp p e below s _ _ _ (T5.setTop (mkF m 64 #[.val (.ref a1), .val (.int (Int32.ofNat x)), .val (.int p2), .val (.int (4 : Int32)), .unset] [(.int (Int32.ofNat (oWith p2 3 (oHigh S x) S).2)), (.int (Int32.ofNat (oLow S x))), (.ref a1)]))
    have hj1 : oLow S x < oCn (oWith p2 3 (oHigh S x) S).1 := Nat.lt_of_lt_of_le (oLow_lt hI hxc) ok3
    have hj2 := ok2
    have hst1 : oSt (oWith p2 3 (oHigh S x) S).1 < 64 := by rw [oWith_st]; exact hst
    refine own_priv X5 hx hZ (y := (⟨"com/example/slackline/slackline/planning/FileOrderSets", "join", "(II)I"⟩ : MethodName)) hown (hw _ (List.mem_of_getElem? (i := 50) rfl)) (hw _ (List.mem_of_getElem? (i := 51) rfl)) (hw _ (List.mem_of_getElem? (i := 52) rfl)) (hw _ (List.mem_of_getElem? (i := 2) rfl)) (hw _ (List.mem_of_getElem? (i := 3) rfl)) (hw _ (List.mem_of_getElem? (i := 53) rfl)) I5.1 (rm9 l Z a0 hw [] a1 bl bh bt bs d (oWith p2 3 (oHigh S x) S).1 (oLow S x) (oWith p2 3 (oHigh S x) S).2 h5 n0 Z5 I5 hg hdis ok1 (by omega) hst1 hj1 hj2) (by decide) (W := 0) (argsL := [(.int (Int32.ofNat (oLow S x))), (.int (Int32.ofNat (oWith p2 3 (oHigh S x) S).2))]) (rest := []) (by decide) (by decide) (by rw [hml]; rfl) (lenOf own_pd1 rfl) rfl rfl (Nat.le_of_eq rfl) (hb hby d4_64) e5 (by decide) (by decide) ?_
    intro v6 T6 L6 hQ6 X6
    obtain ⟨rfl, N6q, K6q, I6⟩ := hQ6
    have N6 := Fr.app N5 N6q
    have Z6 := Nat.le_trans Z5 K6q.1
    obtain ⟨h6, e6⟩ : ∃ z, T6.heap = z := ⟨_, rfl⟩
    rw [e6] at K6q I6 Z6
    have K6 := Keep.trans K5 K6q (fun y hy => Or.inl hy)
    show OWp p e below s _ _ _ (T6.setTop (mkF m 67 #[.val (.ref a1), .val (.int (Int32.ofNat x)), .val (.int p2), .val (.int (4 : Int32)), .unset] [(.int (Int32.ofNat (oJoin (oWith p2 3 (oHigh S x) S).1 (oLow S x) (oWith p2 3 (oHigh S x) S).2).2))]))
    refine own_st (F' := T6.setTop (mkF m 69 #[.val (.ref a1), .val (.int (Int32.ofNat x)), .val (.int p2), .val (.int (4 : Int32)), .val (.int (Int32.ofNat (oJoin (oWith p2 3 (oHigh S x) S).1 (oLow S x) (oWith p2 3 (oHigh S x) S).2).2))] [])) (fun t_ kk => XS.istore X6.here hx rfl (hb hby d4_67) rfl (l' := #[.val (.ref a1), .val (.int (Int32.ofNat x)), .val (.int p2), .val (.int (4 : Int32)), .val (.int (Int32.ofNat (oJoin (oWith p2 3 (oHigh S x) S).1 (oLow S x) (oWith p2 3 (oHigh S x) S).2).2))]) rfl kk) ?_
    refine own_st (F' := T6.setTop (mkF m 71 #[.val (.ref a1), .val (.int (Int32.ofNat x)), .val (.int p2), .val (.int (4 : Int32)), .val (.int (Int32.ofNat (oJoin (oWith p2 3 (oHigh S x) S).1 (oLow S x) (oWith p2 3 (oHigh S x) S).2).2))] [(.int (Int32.ofNat (oJoin (oWith p2 3 (oHigh S x) S).1 (oLow S x) (oWith p2 3 (oHigh S x) S).2).2))])) (fun t_ kk => XS.iload X6.here hx rfl (hb hby d4_69) rfl kk) ?_
    refine own_fin X6 (some (.int (Int32.ofNat (oJoin (oWith p2 3 (oHigh S x) S).1 (oLow S x) (oWith p2 3 (oHigh S x) S).2).2))) (fun h => by rw [Bd.returns] at h; cases h) Bd.notSynchronized (by decide) (by decide) (fun fs hr => X6.ireturnOut hx (t := .int) Bd.returns rfl (Or.inl rfl) (hb hby d4_71) hr) ?_
    rw [e6]
    have hW := own_with_hi (x := x) (S := S) 3 hc2
    show some (Value.int _) = some (Value.int (Int32.ofNat (oWith p2 (3 + 1) x S).2)) ∧ Fr n0 _ ∧ Keep h0 _ [a1, bl, bh, bt, bs] ∧ OFos Z _ a1 bl bh bt bs d (oWith p2 (3 + 1) x S).1
    rw [hW]; exact ⟨rfl, N6, K6, I6⟩
  · -- pc 15: not oIsLow p2 4 = false
    refine own_st (F' := T1.setTop (mkF m 18 #[.val (.ref a1), .val (.int (Int32.ofNat x)), .val (.int p2), .val (.int (4 : Int32)), .unset] [])) (fun t_ kk => XS.ifNo X1.here hx rfl (hb hby d4_15) rfl ((if0 _ _).trans (feq (fun z => hc2 ((own_bit p2 4).mp z))).1) kk) ?_
    refine own_st (F' := T1.setTop (mkF m 19 #[.val (.ref a1), .val (.int (Int32.ofNat x)), .val (.int p2), .val (.int (4 : Int32)), .unset] [(.ref a1)])) (fun t_ kk => XS.aloadN X1.here hx rfl (hb hby d4_18) rfl rfl kk) ?_
    refine own_st (F' := T1.setTop (mkF m 20 #[.val (.ref a1), .val (.int (Int32.ofNat x)), .val (.int p2), .val (.int (4 : Int32)), .unset] [(.ref a1), (.ref a1)])) (fun t_ kk => XS.aloadN X1.here hx rfl (hb hby d4_19) rfl rfl kk) ?_
    refine own_st (F' := T1.setTop (mkF m 21 #[.val (.ref a1), .val (.int (Int32.ofNat x)), .val (.int p2), .val (.int (4 : Int32)), .unset] [(.ref a1), (.ref a1), (.ref a1)])) (fun t_ kk => XS.aloadN X1.here hx rfl (hb hby d4_20) rfl rfl kk) ?_
    refine own_st (F' := T1.setTop (mkF m 22 #[.val (.ref a1), .val (.int (Int32.ofNat x)), .val (.int p2), .val (.int (4 : Int32)), .unset] [(.int (Int32.ofNat x)), (.ref a1), (.ref a1), (.ref a1)])) (fun t_ kk => XS.iloadN X1.here hx rfl (hb hby d4_21) rfl kk) ?_
    refine own_priv X1 hx hZ (y := (⟨"com/example/slackline/slackline/planning/FileOrderSets", "low", "(I)I"⟩ : MethodName)) hown (hw _ (List.mem_of_getElem? (i := 42) rfl)) (hw _ (List.mem_of_getElem? (i := 43) rfl)) (hw _ (List.mem_of_getElem? (i := 44) rfl)) (hw _ (List.mem_of_getElem? (i := 2) rfl)) (hw _ (List.mem_of_getElem? (i := 3) rfl)) (hw _ (List.mem_of_getElem? (i := 45) rfl)) I_.1 (rm7 l Z a0 hw [] a1 bl bh bt bs d S x h0 n0 Z0 I_ (by omega)) (by decide) (W := 2) (argsL := [(.int (Int32.ofNat x))]) (rest := [(.ref a1), (.ref a1)]) (by decide) (by decide) (by rw [hml]; rfl) (lenOf own_pd0 rfl) rfl rfl (Nat.le_of_eq rfl) (hb hby d4_22) e1 (by decide) (by decide) ?_
    intro v7 T7 L7 hQ7 X7
    obtain ⟨rfl, N7q, e7⟩ := hQ7
    have N7 := Fr.app N1 N7q
    show OWp p e below s _ _ _ (T7.setTop (mkF m 25 #[.val (.ref a1), .val (.int (Int32.ofNat x)), .val (.int p2), .val (.int (4 : Int32)), .unset] [(.int (Int32.ofNat (oLow S x))), (.ref a1), (.ref a1)]))
    refine own_st (F' := T7.setTop (mkF m 26 #[.val (.ref a1), .val (.int (Int32.ofNat x)), .val (.int p2), .val (.int (4 : Int32)), .unset] [(.int p2), (.int (Int32.ofNat (oLow S x))), (.ref a1), (.ref a1)])) (fun t_ kk => XS.iloadN X7.here hx rfl (hb hby d4_25) rfl kk) ?_
    refine own_st (F' := T7.setTop (mkF m 27 #[.val (.ref a1), .val (.int (Int32.ofNat x)), .val (.int p2), .val (.int (4 : Int32)), .unset] [(.int (4 : Int32)), (.int p2), (.int (Int32.ofNat (oLow S x))), (.ref a1), (.ref a1)])) (fun t_ kk => XS.iloadN X7.here hx rfl (hb hby d4_26) rfl kk) ?_
    refine own_st (F' := T7.setTop (mkF m 28 #[.val (.ref a1), .val (.int (Int32.ofNat x)), .val (.int p2), .val (.int (4 : Int32)), .unset] [(.int (1 : Int32)), (.int (4 : Int32)), (.int p2), (.int (Int32.ofNat (oLow S x))), (.ref a1), (.ref a1)])) (fun t_ kk => XS.iconst X7.here hx rfl (hb hby d4_27) kk) ?_
    refine own_st (F' := T7.setTop (mkF m 29 #[.val (.ref a1), .val (.int (Int32.ofNat x)), .val (.int p2), .val (.int (4 : Int32)), .unset] [(.int (3 : Int32)), (.int p2), (.int (Int32.ofNat (oLow S x))), (.ref a1), (.ref a1)])) (fun t_ kk => XS.isub X7.here hx rfl (hb hby d4_28) rfl kk) ?_
    have hlt4 := oLow_lt hI hxc
    obtain ⟨ok1, ok2, ok3, ok4⟩ := oWith_ok p2 3 (oLow S x) S hI (by omega) hlt4
    refine own_priv X7 hx hZ (y := (⟨"com/example/slackline/slackline/planning/FileOrderSets", "with", "(III)I"⟩ : MethodName)) hown (hw _ (List.mem_of_getElem? (i := 30) rfl)) (hw _ (List.mem_of_getElem? (i := 31) rfl)) (hw _ (List.mem_of_getElem? (i := 32) rfl)) (hw _ (List.mem_of_getElem? (i := 2) rfl)) (hw _ (List.mem_of_getElem? (i := 3) rfl)) (hw _ (List.mem_of_getElem? (i := 33) rfl)) I_.1 (rm4_3 l Z a0 hw [] a1 bl bh bt bs d S (oLow S x) p2 h0 n0 Z0 I_ hg hdis hI (by omega) hst hlt4) (by decide) (W := 1) (argsL := [(.int (Int32.ofNat (oLow S x))), (.int p2), (.int (3 : Int32))]) (rest := [(.ref a1)]) (by decide) (by decide) (by rw [hml]; rfl) (lenOf own_pd3 rfl) rfl rfl (Nat.le_of_eq rfl) (hb hby d4_29) e7 (by decide) (by decide) ?_
    intro v8 T8 L8 hQ8 X8
    obtain ⟨rfl, N8q, K8, I8⟩ := hQ8
    have N8 := Fr.app N7 N8q
    have Z8 := Nat.le_trans Z0 K8.1
    obtain ⟨h8, e8⟩ : ∃ z, T8.heap = z := ⟨_, rfl⟩
    rw [e8] at K8 I8 Z8
    show OWp p e below s _ _ _ (T8.setTop (mkF m 32 #[.val (.ref a1), .val (.int (Int32.ofNat x)), .val (.int p2), .val (.int (4 : Int32)), .unset] [(.int (Int32.ofNat (oWith p2 3 (oLow S x) S).2)), (.ref a1)]))
    refine own_st (F' := T8.setTop (mkF m 33 #[.val (.ref a1), .val (.int (Int32.ofNat x)), .val (.int p2), .val (.int (4 : Int32)), .unset] [(.ref a1), (.int (Int32.ofNat (oWith p2 3 (oLow S x) S).2)), (.ref a1)])) (fun t_ kk => XS.aloadN X8.here hx rfl (hb hby d4_32) rfl rfl kk) ?_
    refine own_st (F' := T8.setTop (mkF m 34 #[.val (.ref a1), .val (.int (Int32.ofNat x)), .val (.int p2), .val (.int (4 : Int32)), .unset] [(.int (Int32.ofNat x)), (.ref a1), (.int (Int32.ofNat (oWith p2 3 (oLow S x) S).2)), (.ref a1)])) (fun t_ kk => XS.iloadN X8.here hx rfl (hb hby d4_33) rfl kk) ?_
    refine own_priv X8 hx hZ (y := (⟨"com/example/slackline/slackline/planning/FileOrderSets", "high", "(I)I"⟩ : MethodName)) hown (hw _ (List.mem_of_getElem? (i := 46) rfl)) (hw _ (List.mem_of_getElem? (i := 47) rfl)) (hw _ (List.mem_of_getElem? (i := 48) rfl)) (hw _ (List.mem_of_getElem? (i := 2) rfl)) (hw _ (List.mem_of_getElem? (i := 3) rfl)) (hw _ (List.mem_of_getElem? (i := 49) rfl)) I8.1 (rm8 l Z a0 hw [] a1 bl bh bt bs d (oWith p2 3 (oLow S x) S).1 x h8 n0 Z8 I8 (by omega)) (by decide) (W := 2) (argsL := [(.int (Int32.ofNat x))]) (rest := [(.int (Int32.ofNat (oWith p2 3 (oLow S x) S).2)), (.ref a1)]) (by decide) (by decide) (by rw [hml]; rfl) (lenOf own_pd0 rfl) rfl rfl (Nat.le_of_eq rfl) (hb hby d4_34) e8 (by decide) (by decide) ?_
    intro v9 T9 L9 hQ9 X9
    obtain ⟨rfl, N9q, e9⟩ := hQ9
    have N9 := Fr.app N8 N9q
    show OWp p e below s _ _ _ (T9.setTop (mkF m 37 #[.val (.ref a1), .val (.int (Int32.ofNat x)), .val (.int p2), .val (.int (4 : Int32)), .unset] [(.int (Int32.ofNat (oHigh (oWith p2 3 (oLow S x) S).1 x))), (.int (Int32.ofNat (oWith p2 3 (oLow S x) S).2)), (.ref a1)]))
    have hj1 := ok2
    have hj2 := oHigh_lt ok1 (x := x) (by omega)
    have hst1 : oSt (oWith p2 3 (oLow S x) S).1 < 64 := by rw [oWith_st]; exact hst
    refine own_priv X9 hx hZ (y := (⟨"com/example/slackline/slackline/planning/FileOrderSets", "join", "(II)I"⟩ : MethodName)) hown (hw _ (List.mem_of_getElem? (i := 50) rfl)) (hw _ (List.mem_of_getElem? (i := 51) rfl)) (hw _ (List.mem_of_getElem? (i := 52) rfl)) (hw _ (List.mem_of_getElem? (i := 2) rfl)) (hw _ (List.mem_of_getElem? (i := 3) rfl)) (hw _ (List.mem_of_getElem? (i := 53) rfl)) I8.1 (rm9 l Z a0 hw [] a1 bl bh bt bs d (oWith p2 3 (oLow S x) S).1 (oWith p2 3 (oLow S x) S).2 (oHigh (oWith p2 3 (oLow S x) S).1 x) h8 n0 Z8 I8 hg hdis ok1 (by omega) hst1 hj1 hj2) (by decide) (W := 0) (argsL := [(.int (Int32.ofNat (oWith p2 3 (oLow S x) S).2)), (.int (Int32.ofNat (oHigh (oWith p2 3 (oLow S x) S).1 x)))]) (rest := []) (by decide) (by decide) (by rw [hml]; rfl) (lenOf own_pd1 rfl) rfl rfl (Nat.le_of_eq rfl) (hb hby d4_37) e9 (by decide) (by decide) ?_
    intro v10 T10 L10 hQ10 X10
    obtain ⟨rfl, N10q, K10q, I10⟩ := hQ10
    have N10 := Fr.app N9 N10q
    have Z10 := Nat.le_trans Z8 K10q.1
    obtain ⟨h10, e10⟩ : ∃ z, T10.heap = z := ⟨_, rfl⟩
    rw [e10] at K10q I10 Z10
    have K10 := Keep.trans K8 K10q (fun y hy => Or.inl hy)
    show OWp p e below s _ _ _ (T10.setTop (mkF m 40 #[.val (.ref a1), .val (.int (Int32.ofNat x)), .val (.int p2), .val (.int (4 : Int32)), .unset] [(.int (Int32.ofNat (oJoin (oWith p2 3 (oLow S x) S).1 (oWith p2 3 (oLow S x) S).2 (oHigh (oWith p2 3 (oLow S x) S).1 x)).2))]))
    refine own_st (F' := T10.setTop (mkF m 42 #[.val (.ref a1), .val (.int (Int32.ofNat x)), .val (.int p2), .val (.int (4 : Int32)), .val (.int (Int32.ofNat (oJoin (oWith p2 3 (oLow S x) S).1 (oWith p2 3 (oLow S x) S).2 (oHigh (oWith p2 3 (oLow S x) S).1 x)).2))] [])) (fun t_ kk => XS.istore X10.here hx rfl (hb hby d4_40) rfl (l' := #[.val (.ref a1), .val (.int (Int32.ofNat x)), .val (.int p2), .val (.int (4 : Int32)), .val (.int (Int32.ofNat (oJoin (oWith p2 3 (oLow S x) S).1 (oWith p2 3 (oLow S x) S).2 (oHigh (oWith p2 3 (oLow S x) S).1 x)).2))]) rfl kk) ?_
    refine own_st (F' := T10.setTop (mkF m 69 #[.val (.ref a1), .val (.int (Int32.ofNat x)), .val (.int p2), .val (.int (4 : Int32)), .val (.int (Int32.ofNat (oJoin (oWith p2 3 (oLow S x) S).1 (oWith p2 3 (oLow S x) S).2 (oHigh (oWith p2 3 (oLow S x) S).1 x)).2))] [])) (fun t_ kk => XS.goto X10.here hx rfl (pc0 := 42) (pc' := 69) rfl (hb hby d4_42) (by decide) (by decide) kk) ?_
    refine own_st (F' := T10.setTop (mkF m 71 #[.val (.ref a1), .val (.int (Int32.ofNat x)), .val (.int p2), .val (.int (4 : Int32)), .val (.int (Int32.ofNat (oJoin (oWith p2 3 (oLow S x) S).1 (oWith p2 3 (oLow S x) S).2 (oHigh (oWith p2 3 (oLow S x) S).1 x)).2))] [(.int (Int32.ofNat (oJoin (oWith p2 3 (oLow S x) S).1 (oWith p2 3 (oLow S x) S).2 (oHigh (oWith p2 3 (oLow S x) S).1 x)).2))])) (fun t_ kk => XS.iload X10.here hx rfl (hb hby d4_69) rfl kk) ?_
    refine own_fin X10 (some (.int (Int32.ofNat (oJoin (oWith p2 3 (oLow S x) S).1 (oWith p2 3 (oLow S x) S).2 (oHigh (oWith p2 3 (oLow S x) S).1 x)).2))) (fun h => by rw [Bd.returns] at h; cases h) Bd.notSynchronized (by decide) (by decide) (fun fs hr => X10.ireturnOut hx (t := .int) Bd.returns rfl (Or.inl rfl) (hb hby d4_71) hr) ?_
    rw [e10]
    have hW := own_with_lo (x := x) (S := S) 3 (by simpa using hc2)
    show some (Value.int _) = some (Value.int (Int32.ofNat (oWith p2 (3 + 1) x S).2)) ∧ Fr n0 _ ∧ Keep h0 _ [a1, bl, bh, bt, bs] ∧ OFos Z _ a1 bl bh bt bs d (oWith p2 (3 + 1) x S).1
    rw [hW]; exact ⟨rfl, N10, K10, I10⟩
theorem d3_0 : decode prog_8_method_3_code 0 = .ok (.aload_n 0, 1) := by decide +kernel
theorem d3_1 : decode prog_8_method_3_code 1 = .ok (.iload_n 1, 1) := by decide +kernel
theorem d3_2 : decode prog_8_method_3_code 2 = .ok (.iload_n 2, 1) := by decide +kernel
theorem d3_3 : decode prog_8_method_3_code 3 = .ok (.aload_n 0, 1) := by decide +kernel
theorem d3_4 : decode prog_8_method_3_code 4 = .ok (.getfield 26, 3) := by decide +kernel
theorem d3_7 : decode prog_8_method_3_code 7 = .ok (.invokevirtual 32, 3) := by decide +kernel
theorem d3_10 : decode prog_8_method_3_code 10 = .ok (.ireturn, 1) := by decide +kernel
def Q3 (Z : State) (a1 bl bh bt bs : Addr) (d : Nat) (S : OSt) (x : Nat) (p2 : Int32) (h0 : Heap) (n0 : Nat) (v : Option Value) (h : Heap) (L : List Loc) : Prop := v = some (.int (Int32.ofNat (oWith p2 d x S).2)) ∧ Fr n0 L ∧ Keep h0 h [a1, bl, bh, bt, bs] ∧ OFos Z h a1 bl bh bt bs d (oWith p2 d x S).1
theorem ef_3 (m : MethodId) (x0 : Addr) (x1 x2 : Int32) : entryFrame m #[(.ref x0), (.int x1), (.int x2)] 3 = mkF m 0 #[.val (.ref x0), .val (.int x1), .val (.int x2)] [] := by first | (simp [entryFrame, mkF, argsToLocals, Value.category]; done) | rfl
theorem pn_3 : plainName "com/example/slackline/slackline/planning/FileOrderSets" = true := by first | (simp [plainName, overriddenIn]; done) | decide +kernel
set_option maxRecDepth 65536 in
set_option maxHeartbeats 40000000 in
theorem rm3 (l : Launch) (Z : State) (a0 : Array Value) (hw : ∀ d ∈ tables_1, d.before a0 Z = true) (ws : List Jvm.Cond) (a1 bl bh bt bs : Addr) (d : Nat) (S : OSt) (x : Nat) (p2 : Int32) (h0 : Heap) (n0 : Nat) (Z0 : n0 ≤ h0.size) (I : OFos Z h0 a1 bl bh bt bs d S) (hg : n0 ≤ a1 ∧ n0 ≤ bl ∧ n0 ≤ bh ∧ n0 ≤ bt ∧ n0 ≤ bs) (hdis : ODis a1 bl bh bt bs) (hI : OInv S) (hd4 : d ≤ 4) (hc : oCn S + d ≤ 16) (hst : oSt S < 64) (hxc : x < oCn S) :
    MetFree l (⟨"com/example/slackline/slackline/planning/FileOrderSets", "with", "(II)I"⟩ : MethodName) (head1 (Jvm.Cond.code (⟨"com/example/slackline/slackline/planning/FileOrderSets", "with", "(II)I"⟩ : MethodName) prog_8_method_3_code 3 (some .int) :: ws) ({ frames := 7, cells := 0, slots := 0, locals := 118 } : Room)) (fun a U => a = #[(.ref a1), (.int (Int32.ofNat x)), (.int p2)] ∧ Z.Warmed39 U.vm ∧ U.heap = h0) (fun _ _ _ _ _ => True) (fun _ U o U' => ∃ v L, o = .returned v ∧ Q3 Z a1 bl bh bt bs d S x p2 h0 n0 v U'.heap L ∧ FrameEnd U o U' L ({ frames := 7, cells := 0, slots := 0, locals := 118 } : Room).cells ({ frames := 7, cells := 0, slots := 0, locals := 118 } : Room).slots) := by
  refine MetFree.of_bodySF (plainFor_of_name pn_3) hisR ?_
  intro p e s m args below meth c s₁ Bd hml0 hP hK
  obtain ⟨rfl, hZ, hh⟩ := hP
  have hx := Bd.exec
  have hby := Bd.bytes
  have hml : c.maxLocals = 3 := hml0
  have hown : s.vm.findClass "com/example/slackline/slackline/planning/FileOrderSets" = some m.cls := findClass_of_methodNamed Bd.named
  have hnm := (name_of_methodNamed Bd.named Bd.method).1
  have X0 : Stand p l e ({ frames := 7, cells := 0, slots := 0, locals := 118 } : Room) s m #[(.ref a1), (.int (Int32.ofNat x)), (.int p2)] below meth c s₁ [] 0 0 := Stand.of_body Bd
  have e0 : s₁.heap = h0 := by rw [← hh, Bd.state]; rfl
  have N0 := Fr.nil n0
  suffices hgoal : OWp p e below s ({ frames := 7, cells := 0, slots := 0, locals := 118 } : Room).cells ({ frames := 7, cells := 0, slots := 0, locals := 118 } : Room).slots (Q3 Z a1 bl bh bt bs d S x p2 h0 n0) (s₁.setTop (mkF m 0 #[.val (.ref a1), .val (.int (Int32.ofNat x)), .val (.int p2)] [])) by
    rw [← ef_3] at hgoal; exact hgoal
  rcases own_d4 hd4 with rfl | rfl | rfl | rfl | rfl
  · have I_ := I
    refine own_st (F' := s₁.setTop (mkF m 1 #[.val (.ref a1), .val (.int (Int32.ofNat x)), .val (.int p2)] [(.ref a1)])) (fun t_ kk => XS.aloadN X0.here hx rfl (hb hby d3_0) rfl rfl kk) ?_
    refine own_st (F' := s₁.setTop (mkF m 2 #[.val (.ref a1), .val (.int (Int32.ofNat x)), .val (.int p2)] [(.int (Int32.ofNat x)), (.ref a1)])) (fun t_ kk => XS.iloadN X0.here hx rfl (hb hby d3_1) rfl kk) ?_
    refine own_st (F' := s₁.setTop (mkF m 3 #[.val (.ref a1), .val (.int (Int32.ofNat x)), .val (.int p2)] [(.int p2), (.int (Int32.ofNat x)), (.ref a1)])) (fun t_ kk => XS.iloadN X0.here hx rfl (hb hby d3_2) rfl kk) ?_
    refine own_st (F' := s₁.setTop (mkF m 4 #[.val (.ref a1), .val (.int (Int32.ofNat x)), .val (.int p2)] [(.ref a1), (.int p2), (.int (Int32.ofNat x)), (.ref a1)])) (fun t_ kk => XS.aloadN X0.here hx rfl (hb hby d3_3) rfl rfl kk) ?_
    obtain ⟨T1, X1, e1, st1⟩ := getF X0 hx hZ hown (host := "") (Or.inl (hw _ (List.mem_of_getElem? (i := 21) rfl))) Via.refl e0 I_.2.1 (g := (mkF m 4 #[.val (.ref a1), .val (.int (Int32.ofNat x)), .val (.int p2)] [(.ref a1), (.int p2), (.int (Int32.ofNat x)), (.ref a1)])) rfl rfl (hb hby d3_4)
    refine own_st (F' := T1.setTop (mkF m 7 #[.val (.ref a1), .val (.int (Int32.ofNat x)), .val (.int p2)] [(.int (0 : Int32)), (.int p2), (.int (Int32.ofNat x)), (.ref a1)])) st1 ?_
    refine own_priv X1 hx hZ (y := (⟨"com/example/slackline/slackline/planning/FileOrderSets", "with", "(III)I"⟩ : MethodName)) hown (hw _ (List.mem_of_getElem? (i := 30) rfl)) (hw _ (List.mem_of_getElem? (i := 31) rfl)) (hw _ (List.mem_of_getElem? (i := 32) rfl)) (hw _ (List.mem_of_getElem? (i := 2) rfl)) (hw _ (List.mem_of_getElem? (i := 3) rfl)) (hw _ (List.mem_of_getElem? (i := 33) rfl)) I_.1 (rm4_0 l Z a0 hw [] a1 bl bh bt bs 0 S x p2 h0 n0 Z0 I_ hg hdis hI hc hst hxc) (by decide) (W := 0) (argsL := [(.int (Int32.ofNat x)), (.int p2), (.int (0 : Int32))]) (rest := []) (by decide) (by decide) (by rw [hml]; rfl) (lenOf own_pd3 rfl) rfl rfl (Nat.le_of_eq rfl) (hb hby d3_7) e1 (by decide) (by decide) ?_
    intro v2 T2 L2 hQ2 X2
    obtain ⟨rfl, N2q, K2, I2⟩ := hQ2
    have N2 := Fr.app N0 N2q
    obtain ⟨h2, e2⟩ : ∃ z, T2.heap = z := ⟨_, rfl⟩
    rw [e2] at K2 I2
    show OWp p e below s _ _ _ (T2.setTop (mkF m 10 #[.val (.ref a1), .val (.int (Int32.ofNat x)), .val (.int p2)] [(.int (Int32.ofNat (oWith p2 0 x S).2))]))
    refine own_fin X2 (some (.int (Int32.ofNat (oWith p2 0 x S).2))) (fun h => by rw [Bd.returns] at h; cases h) Bd.notSynchronized (by decide) (by decide) (fun fs hr => X2.ireturnOut hx (t := .int) Bd.returns rfl (Or.inl rfl) (hb hby d3_10) hr) ?_
    rw [e2]
    exact ⟨rfl, N2, K2, I2⟩
  · have I_ := I
    refine own_st (F' := s₁.setTop (mkF m 1 #[.val (.ref a1), .val (.int (Int32.ofNat x)), .val (.int p2)] [(.ref a1)])) (fun t_ kk => XS.aloadN X0.here hx rfl (hb hby d3_0) rfl rfl kk) ?_
    refine own_st (F' := s₁.setTop (mkF m 2 #[.val (.ref a1), .val (.int (Int32.ofNat x)), .val (.int p2)] [(.int (Int32.ofNat x)), (.ref a1)])) (fun t_ kk => XS.iloadN X0.here hx rfl (hb hby d3_1) rfl kk) ?_
    refine own_st (F' := s₁.setTop (mkF m 3 #[.val (.ref a1), .val (.int (Int32.ofNat x)), .val (.int p2)] [(.int p2), (.int (Int32.ofNat x)), (.ref a1)])) (fun t_ kk => XS.iloadN X0.here hx rfl (hb hby d3_2) rfl kk) ?_
    refine own_st (F' := s₁.setTop (mkF m 4 #[.val (.ref a1), .val (.int (Int32.ofNat x)), .val (.int p2)] [(.ref a1), (.int p2), (.int (Int32.ofNat x)), (.ref a1)])) (fun t_ kk => XS.aloadN X0.here hx rfl (hb hby d3_3) rfl rfl kk) ?_
    obtain ⟨T3, X3, e3, st3⟩ := getF X0 hx hZ hown (host := "") (Or.inl (hw _ (List.mem_of_getElem? (i := 21) rfl))) Via.refl e0 I_.2.1 (g := (mkF m 4 #[.val (.ref a1), .val (.int (Int32.ofNat x)), .val (.int p2)] [(.ref a1), (.int p2), (.int (Int32.ofNat x)), (.ref a1)])) rfl rfl (hb hby d3_4)
    refine own_st (F' := T3.setTop (mkF m 7 #[.val (.ref a1), .val (.int (Int32.ofNat x)), .val (.int p2)] [(.int (1 : Int32)), (.int p2), (.int (Int32.ofNat x)), (.ref a1)])) st3 ?_
    refine own_priv X3 hx hZ (y := (⟨"com/example/slackline/slackline/planning/FileOrderSets", "with", "(III)I"⟩ : MethodName)) hown (hw _ (List.mem_of_getElem? (i := 30) rfl)) (hw _ (List.mem_of_getElem? (i := 31) rfl)) (hw _ (List.mem_of_getElem? (i := 32) rfl)) (hw _ (List.mem_of_getElem? (i := 2) rfl)) (hw _ (List.mem_of_getElem? (i := 3) rfl)) (hw _ (List.mem_of_getElem? (i := 33) rfl)) I_.1 (rm4_1 l Z a0 hw [] a1 bl bh bt bs 1 S x p2 h0 n0 Z0 I_ hg hdis hI hc hst hxc) (by decide) (W := 0) (argsL := [(.int (Int32.ofNat x)), (.int p2), (.int (1 : Int32))]) (rest := []) (by decide) (by decide) (by rw [hml]; rfl) (lenOf own_pd3 rfl) rfl rfl (Nat.le_of_eq rfl) (hb hby d3_7) e3 (by decide) (by decide) ?_
    intro v4 T4 L4 hQ4 X4
    obtain ⟨rfl, N4q, K4, I4⟩ := hQ4
    have N4 := Fr.app N0 N4q
    obtain ⟨h4, e4⟩ : ∃ z, T4.heap = z := ⟨_, rfl⟩
    rw [e4] at K4 I4
    show OWp p e below s _ _ _ (T4.setTop (mkF m 10 #[.val (.ref a1), .val (.int (Int32.ofNat x)), .val (.int p2)] [(.int (Int32.ofNat (oWith p2 1 x S).2))]))
    refine own_fin X4 (some (.int (Int32.ofNat (oWith p2 1 x S).2))) (fun h => by rw [Bd.returns] at h; cases h) Bd.notSynchronized (by decide) (by decide) (fun fs hr => X4.ireturnOut hx (t := .int) Bd.returns rfl (Or.inl rfl) (hb hby d3_10) hr) ?_
    rw [e4]
    exact ⟨rfl, N4, K4, I4⟩
  · have I_ := I
    refine own_st (F' := s₁.setTop (mkF m 1 #[.val (.ref a1), .val (.int (Int32.ofNat x)), .val (.int p2)] [(.ref a1)])) (fun t_ kk => XS.aloadN X0.here hx rfl (hb hby d3_0) rfl rfl kk) ?_
    refine own_st (F' := s₁.setTop (mkF m 2 #[.val (.ref a1), .val (.int (Int32.ofNat x)), .val (.int p2)] [(.int (Int32.ofNat x)), (.ref a1)])) (fun t_ kk => XS.iloadN X0.here hx rfl (hb hby d3_1) rfl kk) ?_
    refine own_st (F' := s₁.setTop (mkF m 3 #[.val (.ref a1), .val (.int (Int32.ofNat x)), .val (.int p2)] [(.int p2), (.int (Int32.ofNat x)), (.ref a1)])) (fun t_ kk => XS.iloadN X0.here hx rfl (hb hby d3_2) rfl kk) ?_
    refine own_st (F' := s₁.setTop (mkF m 4 #[.val (.ref a1), .val (.int (Int32.ofNat x)), .val (.int p2)] [(.ref a1), (.int p2), (.int (Int32.ofNat x)), (.ref a1)])) (fun t_ kk => XS.aloadN X0.here hx rfl (hb hby d3_3) rfl rfl kk) ?_
    obtain ⟨T5, X5, e5, st5⟩ := getF X0 hx hZ hown (host := "") (Or.inl (hw _ (List.mem_of_getElem? (i := 21) rfl))) Via.refl e0 I_.2.1 (g := (mkF m 4 #[.val (.ref a1), .val (.int (Int32.ofNat x)), .val (.int p2)] [(.ref a1), (.int p2), (.int (Int32.ofNat x)), (.ref a1)])) rfl rfl (hb hby d3_4)
    refine own_st (F' := T5.setTop (mkF m 7 #[.val (.ref a1), .val (.int (Int32.ofNat x)), .val (.int p2)] [(.int (2 : Int32)), (.int p2), (.int (Int32.ofNat x)), (.ref a1)])) st5 ?_
    refine own_priv X5 hx hZ (y := (⟨"com/example/slackline/slackline/planning/FileOrderSets", "with", "(III)I"⟩ : MethodName)) hown (hw _ (List.mem_of_getElem? (i := 30) rfl)) (hw _ (List.mem_of_getElem? (i := 31) rfl)) (hw _ (List.mem_of_getElem? (i := 32) rfl)) (hw _ (List.mem_of_getElem? (i := 2) rfl)) (hw _ (List.mem_of_getElem? (i := 3) rfl)) (hw _ (List.mem_of_getElem? (i := 33) rfl)) I_.1 (rm4_2 l Z a0 hw [] a1 bl bh bt bs 2 S x p2 h0 n0 Z0 I_ hg hdis hI hc hst hxc) (by decide) (W := 0) (argsL := [(.int (Int32.ofNat x)), (.int p2), (.int (2 : Int32))]) (rest := []) (by decide) (by decide) (by rw [hml]; rfl) (lenOf own_pd3 rfl) rfl rfl (Nat.le_of_eq rfl) (hb hby d3_7) e5 (by decide) (by decide) ?_
    intro v6 T6 L6 hQ6 X6
    obtain ⟨rfl, N6q, K6, I6⟩ := hQ6
    have N6 := Fr.app N0 N6q
    obtain ⟨h6, e6⟩ : ∃ z, T6.heap = z := ⟨_, rfl⟩
    rw [e6] at K6 I6
    show OWp p e below s _ _ _ (T6.setTop (mkF m 10 #[.val (.ref a1), .val (.int (Int32.ofNat x)), .val (.int p2)] [(.int (Int32.ofNat (oWith p2 2 x S).2))]))
    refine own_fin X6 (some (.int (Int32.ofNat (oWith p2 2 x S).2))) (fun h => by rw [Bd.returns] at h; cases h) Bd.notSynchronized (by decide) (by decide) (fun fs hr => X6.ireturnOut hx (t := .int) Bd.returns rfl (Or.inl rfl) (hb hby d3_10) hr) ?_
    rw [e6]
    exact ⟨rfl, N6, K6, I6⟩
  · have I_ := I
    refine own_st (F' := s₁.setTop (mkF m 1 #[.val (.ref a1), .val (.int (Int32.ofNat x)), .val (.int p2)] [(.ref a1)])) (fun t_ kk => XS.aloadN X0.here hx rfl (hb hby d3_0) rfl rfl kk) ?_
    refine own_st (F' := s₁.setTop (mkF m 2 #[.val (.ref a1), .val (.int (Int32.ofNat x)), .val (.int p2)] [(.int (Int32.ofNat x)), (.ref a1)])) (fun t_ kk => XS.iloadN X0.here hx rfl (hb hby d3_1) rfl kk) ?_
    refine own_st (F' := s₁.setTop (mkF m 3 #[.val (.ref a1), .val (.int (Int32.ofNat x)), .val (.int p2)] [(.int p2), (.int (Int32.ofNat x)), (.ref a1)])) (fun t_ kk => XS.iloadN X0.here hx rfl (hb hby d3_2) rfl kk) ?_
    refine own_st (F' := s₁.setTop (mkF m 4 #[.val (.ref a1), .val (.int (Int32.ofNat x)), .val (.int p2)] [(.ref a1), (.int p2), (.int (Int32.ofNat x)), (.ref a1)])) (fun t_ kk => XS.aloadN X0.here hx rfl (hb hby d3_3) rfl rfl kk) ?_
    obtain ⟨T7, X7, e7, st7⟩ := getF X0 hx hZ hown (host := "") (Or.inl (hw _ (List.mem_of_getElem? (i := 21) rfl))) Via.refl e0 I_.2.1 (g := (mkF m 4 #[.val (.ref a1), .val (.int (Int32.ofNat x)), .val (.int p2)] [(.ref a1), (.int p2), (.int (Int32.ofNat x)), (.ref a1)])) rfl rfl (hb hby d3_4)
    refine own_st (F' := T7.setTop (mkF m 7 #[.val (.ref a1), .val (.int (Int32.ofNat x)), .val (.int p2)] [(.int (3 : Int32)), (.int p2), (.int (Int32.ofNat x)), (.ref a1)])) st7 ?_
    refine own_priv X7 hx hZ (y := (⟨"com/example/slackline/slackline/planning/FileOrderSets", "with", "(III)I"⟩ : MethodName)) hown (hw _ (List.mem_of_getElem? (i := 30) rfl)) (hw _ (List.mem_of_getElem? (i := 31) rfl)) (hw _ (List.mem_of_getElem? (i := 32) rfl)) (hw _ (List.mem_of_getElem? (i := 2) rfl)) (hw _ (List.mem_of_getElem? (i := 3) rfl)) (hw _ (List.mem_of_getElem? (i := 33) rfl)) I_.1 (rm4_3 l Z a0 hw [] a1 bl bh bt bs 3 S x p2 h0 n0 Z0 I_ hg hdis hI hc hst hxc) (by decide) (W := 0) (argsL := [(.int (Int32.ofNat x)), (.int p2), (.int (3 : Int32))]) (rest := []) (by decide) (by decide) (by rw [hml]; rfl) (lenOf own_pd3 rfl) rfl rfl (Nat.le_of_eq rfl) (hb hby d3_7) e7 (by decide) (by decide) ?_
    intro v8 T8 L8 hQ8 X8
    obtain ⟨rfl, N8q, K8, I8⟩ := hQ8
    have N8 := Fr.app N0 N8q
    obtain ⟨h8, e8⟩ : ∃ z, T8.heap = z := ⟨_, rfl⟩
    rw [e8] at K8 I8
    show OWp p e below s _ _ _ (T8.setTop (mkF m 10 #[.val (.ref a1), .val (.int (Int32.ofNat x)), .val (.int p2)] [(.int (Int32.ofNat (oWith p2 3 x S).2))]))
    refine own_fin X8 (some (.int (Int32.ofNat (oWith p2 3 x S).2))) (fun h => by rw [Bd.returns] at h; cases h) Bd.notSynchronized (by decide) (by decide) (fun fs hr => X8.ireturnOut hx (t := .int) Bd.returns rfl (Or.inl rfl) (hb hby d3_10) hr) ?_
    rw [e8]
    exact ⟨rfl, N8, K8, I8⟩
  · have I_ := I
    refine own_st (F' := s₁.setTop (mkF m 1 #[.val (.ref a1), .val (.int (Int32.ofNat x)), .val (.int p2)] [(.ref a1)])) (fun t_ kk => XS.aloadN X0.here hx rfl (hb hby d3_0) rfl rfl kk) ?_
    refine own_st (F' := s₁.setTop (mkF m 2 #[.val (.ref a1), .val (.int (Int32.ofNat x)), .val (.int p2)] [(.int (Int32.ofNat x)), (.ref a1)])) (fun t_ kk => XS.iloadN X0.here hx rfl (hb hby d3_1) rfl kk) ?_
    refine own_st (F' := s₁.setTop (mkF m 3 #[.val (.ref a1), .val (.int (Int32.ofNat x)), .val (.int p2)] [(.int p2), (.int (Int32.ofNat x)), (.ref a1)])) (fun t_ kk => XS.iloadN X0.here hx rfl (hb hby d3_2) rfl kk) ?_
    refine own_st (F' := s₁.setTop (mkF m 4 #[.val (.ref a1), .val (.int (Int32.ofNat x)), .val (.int p2)] [(.ref a1), (.int p2), (.int (Int32.ofNat x)), (.ref a1)])) (fun t_ kk => XS.aloadN X0.here hx rfl (hb hby d3_3) rfl rfl kk) ?_
    obtain ⟨T9, X9, e9, st9⟩ := getF X0 hx hZ hown (host := "") (Or.inl (hw _ (List.mem_of_getElem? (i := 21) rfl))) Via.refl e0 I_.2.1 (g := (mkF m 4 #[.val (.ref a1), .val (.int (Int32.ofNat x)), .val (.int p2)] [(.ref a1), (.int p2), (.int (Int32.ofNat x)), (.ref a1)])) rfl rfl (hb hby d3_4)
    refine own_st (F' := T9.setTop (mkF m 7 #[.val (.ref a1), .val (.int (Int32.ofNat x)), .val (.int p2)] [(.int (4 : Int32)), (.int p2), (.int (Int32.ofNat x)), (.ref a1)])) st9 ?_
    refine own_priv X9 hx hZ (y := (⟨"com/example/slackline/slackline/planning/FileOrderSets", "with", "(III)I"⟩ : MethodName)) hown (hw _ (List.mem_of_getElem? (i := 30) rfl)) (hw _ (List.mem_of_getElem? (i := 31) rfl)) (hw _ (List.mem_of_getElem? (i := 32) rfl)) (hw _ (List.mem_of_getElem? (i := 2) rfl)) (hw _ (List.mem_of_getElem? (i := 3) rfl)) (hw _ (List.mem_of_getElem? (i := 33) rfl)) I_.1 (rm4_4 l Z a0 hw [] a1 bl bh bt bs 4 S x p2 h0 n0 Z0 I_ hg hdis hI hc hst hxc) (by decide) (W := 0) (argsL := [(.int (Int32.ofNat x)), (.int p2), (.int (4 : Int32))]) (rest := []) (by decide) (by decide) (by rw [hml]; rfl) (lenOf own_pd3 rfl) rfl rfl (Nat.le_of_eq rfl) (hb hby d3_7) e9 (by decide) (by decide) ?_
    intro v10 T10 L10 hQ10 X10
    obtain ⟨rfl, N10q, K10, I10⟩ := hQ10
    have N10 := Fr.app N0 N10q
    obtain ⟨h10, e10⟩ : ∃ z, T10.heap = z := ⟨_, rfl⟩
    rw [e10] at K10 I10
    show OWp p e below s _ _ _ (T10.setTop (mkF m 10 #[.val (.ref a1), .val (.int (Int32.ofNat x)), .val (.int p2)] [(.int (Int32.ofNat (oWith p2 4 x S).2))]))
    refine own_fin X10 (some (.int (Int32.ofNat (oWith p2 4 x S).2))) (fun h => by rw [Bd.returns] at h; cases h) Bd.notSynchronized (by decide) (by decide) (fun fs hr => X10.ireturnOut hx (t := .int) Bd.returns rfl (Or.inl rfl) (hb hby d3_10) hr) ?_
    rw [e10]
    exact ⟨rfl, N10, K10, I10⟩
theorem d1_0 : decode prog_8_method_1_code 0 = .ok (.aload_n 0, 1) := by decide +kernel
theorem d1_1 : decode prog_8_method_1_code 1 = .ok (.invokespecial 1, 3) := by decide +kernel
theorem d1_4 : decode prog_8_method_1_code 4 = .ok (.aload_n 0, 1) := by decide +kernel
theorem d1_5 : decode prog_8_method_1_code 5 = .ok (.bipush 16, 2) := by decide +kernel
theorem d1_7 : decode prog_8_method_1_code 7 = .ok (.newarray .int, 2) := by decide +kernel
theorem d1_9 : decode prog_8_method_1_code 9 = .ok (.putfield 7, 3) := by decide +kernel
theorem d1_12 : decode prog_8_method_1_code 12 = .ok (.aload_n 0, 1) := by decide +kernel
theorem d1_13 : decode prog_8_method_1_code 13 = .ok (.bipush 16, 2) := by decide +kernel
theorem d1_15 : decode prog_8_method_1_code 15 = .ok (.newarray .int, 2) := by decide +kernel
theorem d1_17 : decode prog_8_method_1_code 17 = .ok (.putfield 13, 3) := by decide +kernel
theorem d1_20 : decode prog_8_method_1_code 20 = .ok (.aload_n 0, 1) := by decide +kernel
theorem d1_21 : decode prog_8_method_1_code 21 = .ok (.bipush 32, 2) := by decide +kernel
theorem d1_23 : decode prog_8_method_1_code 23 = .ok (.newarray .int, 2) := by decide +kernel
theorem d1_25 : decode prog_8_method_1_code 25 = .ok (.putfield 16, 3) := by decide +kernel
theorem d1_28 : decode prog_8_method_1_code 28 = .ok (.aload_n 0, 1) := by decide +kernel
theorem d1_29 : decode prog_8_method_1_code 29 = .ok (.bipush 32, 2) := by decide +kernel
theorem d1_31 : decode prog_8_method_1_code 31 = .ok (.newarray .int, 2) := by decide +kernel
theorem d1_33 : decode prog_8_method_1_code 33 = .ok (.putfield 19, 3) := by decide +kernel
theorem d1_36 : decode prog_8_method_1_code 36 = .ok (.aload_n 0, 1) := by decide +kernel
theorem d1_37 : decode prog_8_method_1_code 37 = .ok (.iconst 1, 1) := by decide +kernel
theorem d1_38 : decode prog_8_method_1_code 38 = .ok (.putfield 22, 3) := by decide +kernel
theorem d1_41 : decode prog_8_method_1_code 41 = .ok (.iconst 0, 1) := by decide +kernel
theorem d1_42 : decode prog_8_method_1_code 42 = .ok (.istore_n 2, 1) := by decide +kernel
theorem d1_43 : decode prog_8_method_1_code 43 = .ok (.lconst 1, 1) := by decide +kernel
theorem d1_44 : decode prog_8_method_1_code 44 = .ok (.iload_n 2, 1) := by decide +kernel
theorem d1_45 : decode prog_8_method_1_code 45 = .ok (.lshl, 1) := by decide +kernel
theorem d1_46 : decode prog_8_method_1_code 46 = .ok (.iload_n 1, 1) := by decide +kernel
theorem d1_47 : decode prog_8_method_1_code 47 = .ok (.i2l, 1) := by decide +kernel
theorem d1_48 : decode prog_8_method_1_code 48 = .ok (.lcmp, 1) := by decide +kernel
theorem d1_49 : decode prog_8_method_1_code 49 = .ok (.ifCond .ge 9, 3) := by decide +kernel
theorem d1_52 : decode prog_8_method_1_code 52 = .ok (.iinc 2 1, 3) := by decide +kernel
theorem d1_55 : decode prog_8_method_1_code 55 = .ok (.goto (-12), 3) := by decide +kernel
theorem d1_58 : decode prog_8_method_1_code 58 = .ok (.aload_n 0, 1) := by decide +kernel
theorem d1_59 : decode prog_8_method_1_code 59 = .ok (.iload_n 2, 1) := by decide +kernel
theorem d1_60 : decode prog_8_method_1_code 60 = .ok (.putfield 26, 3) := by decide +kernel
theorem d1_63 : decode prog_8_method_1_code 63 = .ok (.aload_n 0, 1) := by decide +kernel
theorem d1_64 : decode prog_8_method_1_code 64 = .ok (.iconst 2, 1) := by decide +kernel
theorem d1_65 : decode prog_8_method_1_code 65 = .ok (.putfield 29, 3) := by decide +kernel
theorem d1_68 : decode prog_8_method_1_code 68 = .ok (.return_, 1) := by decide +kernel
def Q1 (Z : State) (a1 : Addr) (p1 : Int32) (h0 : Heap) (n0 : Nat) (v : Option Value) (h : Heap) (L : List Loc) : Prop := v = none ∧ Fr n0 L ∧ Keep h0 h [a1] ∧ ∃ bl bh bt bs, (h0.size ≤ bl ∧ h0.size ≤ bh ∧ h0.size ≤ bt ∧ h0.size ≤ bs) ∧ ODis a1 bl bh bt bs ∧ OFos Z h a1 bl bh bt bs (oDep p1) oNew
theorem ef_1 (m : MethodId) (x0 : Addr) (x1 : Int32) : entryFrame m #[(.ref x0), (.int x1)] 3 = mkF m 0 #[.val (.ref x0), .val (.int x1), .unset] [] := by first | (simp [entryFrame, mkF, argsToLocals, Value.category]; done) | rfl
theorem pn_1 : plainName "com/example/slackline/slackline/planning/FileOrderSets" = true := by first | (simp [plainName, overriddenIn]; done) | decide +kernel
set_option maxRecDepth 65536 in
set_option maxHeartbeats 40000000 in
theorem rm1 (l : Launch) (Z : State) (a0 : Array Value) (hw : ∀ d ∈ tables_1, d.before a0 Z = true) (ws : List Jvm.Cond) (a1 : Addr) (p1 : Int32) (h0 : Heap) (n0 : Nat) (Z0 : n0 ≤ h0.size) (E_a : Exa Z h0 a1 "com/example/slackline/slackline/planning/FileOrderSets") (f_depth : Fld Z h0 a1 "com/example/slackline/slackline/planning/FileOrderSets" "depth" "I" (.int (0 : Int32))) (f_lows : Fld Z h0 a1 "com/example/slackline/slackline/planning/FileOrderSets" "lows" "[I" .null) (f_highs : Fld Z h0 a1 "com/example/slackline/slackline/planning/FileOrderSets" "highs" "[I" .null) (f_table : Fld Z h0 a1 "com/example/slackline/slackline/planning/FileOrderSets" "table" "[I" .null) (f_stamps : Fld Z h0 a1 "com/example/slackline/slackline/planning/FileOrderSets" "stamps" "[I" .null) (f_count : Fld Z h0 a1 "com/example/slackline/slackline/planning/FileOrderSets" "count" "I" (.int (0 : Int32))) (f_stamp : Fld Z h0 a1 "com/example/slackline/slackline/planning/FileOrderSets" "stamp" "I" (.int (0 : Int32))) (g_a : n0 ≤ a1) (hp : p1.toInt ≤ 16) :
    MetFree l (⟨"com/example/slackline/slackline/planning/FileOrderSets", "<init>", "(I)V"⟩ : MethodName) (head1 (Jvm.Cond.code (⟨"com/example/slackline/slackline/planning/FileOrderSets", "<init>", "(I)V"⟩ : MethodName) prog_8_method_1_code 3 none :: ws) ({ frames := 1, cells := 4, slots := 96, locals := 12 } : Room)) (fun a U => a = #[(.ref a1), (.int p1)] ∧ Z.Warmed39 U.vm ∧ U.heap = h0) (fun _ _ _ _ _ => True) (fun _ U o U' => ∃ v L, o = .returned v ∧ Q1 Z a1 p1 h0 n0 v U'.heap L ∧ FrameEnd U o U' L ({ frames := 1, cells := 4, slots := 96, locals := 12 } : Room).cells ({ frames := 1, cells := 4, slots := 96, locals := 12 } : Room).slots) := by
  refine MetFree.of_bodySF (plainFor_of_name pn_1) hisR ?_
  intro p e s m args below meth c s₁ Bd hml0 hP hK
  obtain ⟨rfl, hZ, hh⟩ := hP
  have hx := Bd.exec
  have hby := Bd.bytes
  have hml : c.maxLocals = 3 := hml0
  have hown : s.vm.findClass "com/example/slackline/slackline/planning/FileOrderSets" = some m.cls := findClass_of_methodNamed Bd.named
  have hnm := (name_of_methodNamed Bd.named Bd.method).1
  have X0 : Stand p l e ({ frames := 1, cells := 4, slots := 96, locals := 12 } : Room) s m #[(.ref a1), (.int p1)] below meth c s₁ [] 0 0 := Stand.of_body Bd
  have e0 : s₁.heap = h0 := by rw [← hh, Bd.state]; rfl
  have N0 := Fr.nil n0
  suffices hgoal : OWp p e below s ({ frames := 1, cells := 4, slots := 96, locals := 12 } : Room).cells ({ frames := 1, cells := 4, slots := 96, locals := 12 } : Room).slots (Q1 Z a1 p1 h0 n0) (s₁.setTop (mkF m 0 #[.val (.ref a1), .val (.int p1), .unset] [])) by
    rw [← ef_1] at hgoal; exact hgoal
  refine own_st (F' := s₁.setTop (mkF m 1 #[.val (.ref a1), .val (.int p1), .unset] [(.ref a1)])) (fun t_ kk => XS.aloadN X0.here hx rfl (hb hby d1_0) rfl rfl kk) ?_
  obtain ⟨T1, X1, e1, st1⟩ := initO X0 hx hZ hown (hw _ (List.mem_of_getElem? (i := 7) rfl)) (hw _ (List.mem_of_getElem? (i := 8) rfl)) (hw _ (List.mem_of_getElem? (i := 9) rfl)) e0 (g := (mkF m 1 #[.val (.ref a1), .val (.int p1), .unset] [(.ref a1)])) rfl (by rw [hml]; rfl) rfl (hb hby d1_1) (by decide) (W := 0) (by show 2 * 0 + _ ≤ _; exact Nat.le_of_eq rfl) (by decide)
  refine own_st (F' := T1.setTop (mkF m 4 #[.val (.ref a1), .val (.int p1), .unset] [])) st1 ?_
  refine own_st (F' := T1.setTop (mkF m 5 #[.val (.ref a1), .val (.int p1), .unset] [(.ref a1)])) (fun t_ kk => XS.aloadN X1.here hx rfl (hb hby d1_4) rfl rfl kk) ?_
  refine own_st (F' := T1.setTop (mkF m 7 #[.val (.ref a1), .val (.int p1), .unset] [(.int (16 : Int32)), (.ref a1)])) (fun t_ kk => XS.bipush X1.here hx rfl (hb hby d1_5) kk) ?_
  obtain ⟨T2, h2, k2, X2, e2, E2, A2, st2⟩ := newP X1 hx hZ (hw _ (List.mem_of_getElem? (i := 10) rfl)) e1 (g := (mkF m 7 #[.val (.ref a1), .val (.int p1), .unset] [(.int (16 : Int32)), (.ref a1)])) rfl (hb hby d1_7) rfl (by decide) (cap := 16) (by decide) (by decide) (by decide) (by decide)
  obtain ⟨b2, g2⟩ : ∃ z, z = h0.size := ⟨_, rfl⟩
  rw [← g2] at A2 st2
  have g_b2 : n0 ≤ b2 := Nat.le_trans Z0 (Nat.le_of_eq g2.symm)
  have sz_b2 : h0.size ≤ b2 := Nat.le_trans (Keep.refl h0 [a1]).1 (Nat.le_of_eq g2.symm)
  have ne_a1_b2 : a1 ≠ b2 := Nat.ne_of_lt (Nat.lt_of_lt_of_le E_a.lt (Nat.le_of_eq g2.symm))
  have f3 := E_a.ext E2
  have f4 := f_depth.ext E2
  have f5 := f_lows.ext E2
  have f6 := f_highs.ext E2
  have f7 := f_table.ext E2
  have f8 := f_stamps.ext E2
  have f9 := f_count.ext E2
  have f10 := f_stamp.ext E2
  have V2 : Arv Z h2 b2 k2 .int (16 : Int32) (List.replicate 16 (.int (0 : Int32))) (.int (0 : Int32)) := (Arv.new A2 (by decide)).pad (pad_rep [] (.int (0 : Int32)) 16)
  have K11 := Keep.ext (Keep.refl h0 [a1]) E2
  have Z12 := Nat.le_trans Z0 E2.1
  refine own_st (F' := T2.setTop (mkF m 9 #[.val (.ref a1), .val (.int p1), .unset] [(.ref b2), (.ref a1)])) st2 ?_
  obtain ⟨T13, h13, X13, e13, W13, st13⟩ := putF X2 hx hZ hown (host := "") (Or.inl (hw _ (List.mem_of_getElem? (i := 11) rfl))) Via.refl e2 f5 f3 (Or.inl (hw _ (List.mem_of_getElem? (i := 12) rfl))) (hw _ (List.mem_of_getElem? (i := 2) rfl)) (ty := (.array .int)) (by decide) rfl rfl (g := (mkF m 9 #[.val (.ref a1), .val (.int p1), .unset] [(.ref b2), (.ref a1)])) rfl rfl (hb hby d1_9)
  have f14 := f3.wr W13
  have f15 := f4.other W13 (Or.inr (slot_ne (Or.inr (hw _ (List.mem_of_getElem? (i := 22) rfl))) (Or.inl (hw _ (List.mem_of_getElem? (i := 12) rfl))) (by decide) (t := .int) (t' := (.array .int)) (by decide) (by decide)))
  have f16 := f5.same W13
  have f17 := f6.other W13 (Or.inr (slot_ne (Or.inl (hw _ (List.mem_of_getElem? (i := 14) rfl))) (Or.inl (hw _ (List.mem_of_getElem? (i := 12) rfl))) (by decide) (t := (.array .int)) (t' := (.array .int)) (by decide) (by decide)))
  have f18 := f7.other W13 (Or.inr (slot_ne (Or.inl (hw _ (List.mem_of_getElem? (i := 16) rfl))) (Or.inl (hw _ (List.mem_of_getElem? (i := 12) rfl))) (by decide) (t := (.array .int)) (t' := (.array .int)) (by decide) (by decide)))
  have f19 := f8.other W13 (Or.inr (slot_ne (Or.inl (hw _ (List.mem_of_getElem? (i := 18) rfl))) (Or.inl (hw _ (List.mem_of_getElem? (i := 12) rfl))) (by decide) (t := (.array .int)) (t' := (.array .int)) (by decide) (by decide)))
  have f20 := f9.other W13 (Or.inr (slot_ne (Or.inl (hw _ (List.mem_of_getElem? (i := 24) rfl))) (Or.inl (hw _ (List.mem_of_getElem? (i := 12) rfl))) (by decide) (t := .int) (t' := (.array .int)) (by decide) (by decide)))
  have f21 := f10.other W13 (Or.inr (slot_ne (Or.inl (hw _ (List.mem_of_getElem? (i := 20) rfl))) (Or.inl (hw _ (List.mem_of_getElem? (i := 12) rfl))) (by decide) (t := .int) (t' := (.array .int)) (by decide) (by decide)))
  have f22 := V2.other W13 (Ne.symm ne_a1_b2)
  have K23 := Keep.wr K11 W13 (Or.inl (List.mem_of_getElem? (i := 0) rfl))
  have Z24 := Nat.le_trans Z12 (Keep.of_wr W13).1
  have N25 := Fr.snoc X13 N0 g_a
  refine own_st (F' := T13.setTop (mkF m 12 #[.val (.ref a1), .val (.int p1), .unset] [])) st13 ?_
  refine own_st (F' := T13.setTop (mkF m 13 #[.val (.ref a1), .val (.int p1), .unset] [(.ref a1)])) (fun t_ kk => XS.aloadN X13.here hx rfl (hb hby d1_12) rfl rfl kk) ?_
  refine own_st (F' := T13.setTop (mkF m 15 #[.val (.ref a1), .val (.int p1), .unset] [(.int (16 : Int32)), (.ref a1)])) (fun t_ kk => XS.bipush X13.here hx rfl (hb hby d1_13) kk) ?_
  obtain ⟨T26, h26, k26, X26, e26, E26, A26, st26⟩ := newP X13 hx hZ (hw _ (List.mem_of_getElem? (i := 10) rfl)) e13 (g := (mkF m 15 #[.val (.ref a1), .val (.int p1), .unset] [(.int (16 : Int32)), (.ref a1)])) rfl (hb hby d1_15) rfl (by decide) (cap := 16) (by decide) (by decide) (by decide) (by decide)
  obtain ⟨b26, g26⟩ : ∃ z, z = h13.size := ⟨_, rfl⟩
  rw [← g26] at A26 st26
  have g_b26 : n0 ≤ b26 := Nat.le_trans Z24 (Nat.le_of_eq g26.symm)
  have sz_b26 : h0.size ≤ b26 := Nat.le_trans K23.1 (Nat.le_of_eq g26.symm)
  have ne_a1_b26 : a1 ≠ b26 := Nat.ne_of_lt (Nat.lt_of_lt_of_le f14.lt (Nat.le_of_eq g26.symm))
  have ne_b2_b26 : b2 ≠ b26 := Nat.ne_of_lt (Nat.lt_of_lt_of_le f22.lt (Nat.le_of_eq g26.symm))
  have f27 := f14.ext E26
  have f28 := f15.ext E26
  have f29 := f16.ext E26
  have f30 := f17.ext E26
  have f31 := f18.ext E26
  have f32 := f19.ext E26
  have f33 := f20.ext E26
  have f34 := f21.ext E26
  have f35 := f22.ext E26
  have V26 : Arv Z h26 b26 k26 .int (16 : Int32) (List.replicate 16 (.int (0 : Int32))) (.int (0 : Int32)) := (Arv.new A26 (by decide)).pad (pad_rep [] (.int (0 : Int32)) 16)
  have K36 := Keep.ext K23 E26
  have Z37 := Nat.le_trans Z24 E26.1
  refine own_st (F' := T26.setTop (mkF m 17 #[.val (.ref a1), .val (.int p1), .unset] [(.ref b26), (.ref a1)])) st26 ?_
  obtain ⟨T38, h38, X38, e38, W38, st38⟩ := putF X26 hx hZ hown (host := "") (Or.inl (hw _ (List.mem_of_getElem? (i := 13) rfl))) Via.refl e26 f30 f27 (Or.inl (hw _ (List.mem_of_getElem? (i := 14) rfl))) (hw _ (List.mem_of_getElem? (i := 2) rfl)) (ty := (.array .int)) (by decide) rfl rfl (g := (mkF m 17 #[.val (.ref a1), .val (.int p1), .unset] [(.ref b26), (.ref a1)])) rfl rfl (hb hby d1_17)
  have f39 := f27.wr W38
  have f40 := f28.other W38 (Or.inr (slot_ne (Or.inr (hw _ (List.mem_of_getElem? (i := 22) rfl))) (Or.inl (hw _ (List.mem_of_getElem? (i := 14) rfl))) (by decide) (t := .int) (t' := (.array .int)) (by decide) (by decide)))
  have f41 := f29.other W38 (Or.inr (slot_ne (Or.inl (hw _ (List.mem_of_getElem? (i := 12) rfl))) (Or.inl (hw _ (List.mem_of_getElem? (i := 14) rfl))) (by decide) (t := (.array .int)) (t' := (.array .int)) (by decide) (by decide)))
  have f42 := f30.same W38
  have f43 := f31.other W38 (Or.inr (slot_ne (Or.inl (hw _ (List.mem_of_getElem? (i := 16) rfl))) (Or.inl (hw _ (List.mem_of_getElem? (i := 14) rfl))) (by decide) (t := (.array .int)) (t' := (.array .int)) (by decide) (by decide)))
  have f44 := f32.other W38 (Or.inr (slot_ne (Or.inl (hw _ (List.mem_of_getElem? (i := 18) rfl))) (Or.inl (hw _ (List.mem_of_getElem? (i := 14) rfl))) (by decide) (t := (.array .int)) (t' := (.array .int)) (by decide) (by decide)))
  have f45 := f33.other W38 (Or.inr (slot_ne (Or.inl (hw _ (List.mem_of_getElem? (i := 24) rfl))) (Or.inl (hw _ (List.mem_of_getElem? (i := 14) rfl))) (by decide) (t := .int) (t' := (.array .int)) (by decide) (by decide)))
  have f46 := f34.other W38 (Or.inr (slot_ne (Or.inl (hw _ (List.mem_of_getElem? (i := 20) rfl))) (Or.inl (hw _ (List.mem_of_getElem? (i := 14) rfl))) (by decide) (t := .int) (t' := (.array .int)) (by decide) (by decide)))
  have f47 := f35.other W38 (Ne.symm ne_a1_b2)
  have f48 := V26.other W38 (Ne.symm ne_a1_b26)
  have K49 := Keep.wr K36 W38 (Or.inl (List.mem_of_getElem? (i := 0) rfl))
  have Z50 := Nat.le_trans Z37 (Keep.of_wr W38).1
  have N51 := Fr.snoc X38 N25 g_a
  refine own_st (F' := T38.setTop (mkF m 20 #[.val (.ref a1), .val (.int p1), .unset] [])) st38 ?_
  refine own_st (F' := T38.setTop (mkF m 21 #[.val (.ref a1), .val (.int p1), .unset] [(.ref a1)])) (fun t_ kk => XS.aloadN X38.here hx rfl (hb hby d1_20) rfl rfl kk) ?_
  refine own_st (F' := T38.setTop (mkF m 23 #[.val (.ref a1), .val (.int p1), .unset] [(.int (32 : Int32)), (.ref a1)])) (fun t_ kk => XS.bipush X38.here hx rfl (hb hby d1_21) kk) ?_
  obtain ⟨T52, h52, k52, X52, e52, E52, A52, st52⟩ := newP X38 hx hZ (hw _ (List.mem_of_getElem? (i := 10) rfl)) e38 (g := (mkF m 23 #[.val (.ref a1), .val (.int p1), .unset] [(.int (32 : Int32)), (.ref a1)])) rfl (hb hby d1_23) rfl (by decide) (cap := 32) (by decide) (by decide) (by decide) (by decide)
  obtain ⟨b52, g52⟩ : ∃ z, z = h38.size := ⟨_, rfl⟩
  rw [← g52] at A52 st52
  have g_b52 : n0 ≤ b52 := Nat.le_trans Z50 (Nat.le_of_eq g52.symm)
  have sz_b52 : h0.size ≤ b52 := Nat.le_trans K49.1 (Nat.le_of_eq g52.symm)
  have ne_a1_b52 : a1 ≠ b52 := Nat.ne_of_lt (Nat.lt_of_lt_of_le f39.lt (Nat.le_of_eq g52.symm))
  have ne_b2_b52 : b2 ≠ b52 := Nat.ne_of_lt (Nat.lt_of_lt_of_le f47.lt (Nat.le_of_eq g52.symm))
  have ne_b26_b52 : b26 ≠ b52 := Nat.ne_of_lt (Nat.lt_of_lt_of_le f48.lt (Nat.le_of_eq g52.symm))
  have f53 := f39.ext E52
  have f54 := f40.ext E52
  have f55 := f41.ext E52
  have f56 := f42.ext E52
  have f57 := f43.ext E52
  have f58 := f44.ext E52
  have f59 := f45.ext E52
  have f60 := f46.ext E52
  have f61 := f47.ext E52
  have f62 := f48.ext E52
  have V52 : Arv Z h52 b52 k52 .int (32 : Int32) (List.replicate 32 (.int (0 : Int32))) (.int (0 : Int32)) := (Arv.new A52 (by decide)).pad (pad_rep [] (.int (0 : Int32)) 32)
  have K63 := Keep.ext K49 E52
  have Z64 := Nat.le_trans Z50 E52.1
  refine own_st (F' := T52.setTop (mkF m 25 #[.val (.ref a1), .val (.int p1), .unset] [(.ref b52), (.ref a1)])) st52 ?_
  obtain ⟨T65, h65, X65, e65, W65, st65⟩ := putF X52 hx hZ hown (host := "") (Or.inl (hw _ (List.mem_of_getElem? (i := 15) rfl))) Via.refl e52 f57 f53 (Or.inl (hw _ (List.mem_of_getElem? (i := 16) rfl))) (hw _ (List.mem_of_getElem? (i := 2) rfl)) (ty := (.array .int)) (by decide) rfl rfl (g := (mkF m 25 #[.val (.ref a1), .val (.int p1), .unset] [(.ref b52), (.ref a1)])) rfl rfl (hb hby d1_25)
  have f66 := f53.wr W65
  have f67 := f54.other W65 (Or.inr (slot_ne (Or.inr (hw _ (List.mem_of_getElem? (i := 22) rfl))) (Or.inl (hw _ (List.mem_of_getElem? (i := 16) rfl))) (by decide) (t := .int) (t' := (.array .int)) (by decide) (by decide)))
  have f68 := f55.other W65 (Or.inr (slot_ne (Or.inl (hw _ (List.mem_of_getElem? (i := 12) rfl))) (Or.inl (hw _ (List.mem_of_getElem? (i := 16) rfl))) (by decide) (t := (.array .int)) (t' := (.array .int)) (by decide) (by decide)))
  have f69 := f56.other W65 (Or.inr (slot_ne (Or.inl (hw _ (List.mem_of_getElem? (i := 14) rfl))) (Or.inl (hw _ (List.mem_of_getElem? (i := 16) rfl))) (by decide) (t := (.array .int)) (t' := (.array .int)) (by decide) (by decide)))
  have f70 := f57.same W65
  have f71 := f58.other W65 (Or.inr (slot_ne (Or.inl (hw _ (List.mem_of_getElem? (i := 18) rfl))) (Or.inl (hw _ (List.mem_of_getElem? (i := 16) rfl))) (by decide) (t := (.array .int)) (t' := (.array .int)) (by decide) (by decide)))
  have f72 := f59.other W65 (Or.inr (slot_ne (Or.inl (hw _ (List.mem_of_getElem? (i := 24) rfl))) (Or.inl (hw _ (List.mem_of_getElem? (i := 16) rfl))) (by decide) (t := .int) (t' := (.array .int)) (by decide) (by decide)))
  have f73 := f60.other W65 (Or.inr (slot_ne (Or.inl (hw _ (List.mem_of_getElem? (i := 20) rfl))) (Or.inl (hw _ (List.mem_of_getElem? (i := 16) rfl))) (by decide) (t := .int) (t' := (.array .int)) (by decide) (by decide)))
  have f74 := f61.other W65 (Ne.symm ne_a1_b2)
  have f75 := f62.other W65 (Ne.symm ne_a1_b26)
  have f76 := V52.other W65 (Ne.symm ne_a1_b52)
  have K77 := Keep.wr K63 W65 (Or.inl (List.mem_of_getElem? (i := 0) rfl))
  have Z78 := Nat.le_trans Z64 (Keep.of_wr W65).1
  have N79 := Fr.snoc X65 N51 g_a
  refine own_st (F' := T65.setTop (mkF m 28 #[.val (.ref a1), .val (.int p1), .unset] [])) st65 ?_
  refine own_st (F' := T65.setTop (mkF m 29 #[.val (.ref a1), .val (.int p1), .unset] [(.ref a1)])) (fun t_ kk => XS.aloadN X65.here hx rfl (hb hby d1_28) rfl rfl kk) ?_
  refine own_st (F' := T65.setTop (mkF m 31 #[.val (.ref a1), .val (.int p1), .unset] [(.int (32 : Int32)), (.ref a1)])) (fun t_ kk => XS.bipush X65.here hx rfl (hb hby d1_29) kk) ?_
  obtain ⟨T80, h80, k80, X80, e80, E80, A80, st80⟩ := newP X65 hx hZ (hw _ (List.mem_of_getElem? (i := 10) rfl)) e65 (g := (mkF m 31 #[.val (.ref a1), .val (.int p1), .unset] [(.int (32 : Int32)), (.ref a1)])) rfl (hb hby d1_31) rfl (by decide) (cap := 32) (by decide) (by decide) (by decide) (by decide)
  obtain ⟨b80, g80⟩ : ∃ z, z = h65.size := ⟨_, rfl⟩
  rw [← g80] at A80 st80
  have g_b80 : n0 ≤ b80 := Nat.le_trans Z78 (Nat.le_of_eq g80.symm)
  have sz_b80 : h0.size ≤ b80 := Nat.le_trans K77.1 (Nat.le_of_eq g80.symm)
  have ne_a1_b80 : a1 ≠ b80 := Nat.ne_of_lt (Nat.lt_of_lt_of_le f66.lt (Nat.le_of_eq g80.symm))
  have ne_b2_b80 : b2 ≠ b80 := Nat.ne_of_lt (Nat.lt_of_lt_of_le f74.lt (Nat.le_of_eq g80.symm))
  have ne_b26_b80 : b26 ≠ b80 := Nat.ne_of_lt (Nat.lt_of_lt_of_le f75.lt (Nat.le_of_eq g80.symm))
  have ne_b52_b80 : b52 ≠ b80 := Nat.ne_of_lt (Nat.lt_of_lt_of_le f76.lt (Nat.le_of_eq g80.symm))
  have f81 := f66.ext E80
  have f82 := f67.ext E80
  have f83 := f68.ext E80
  have f84 := f69.ext E80
  have f85 := f70.ext E80
  have f86 := f71.ext E80
  have f87 := f72.ext E80
  have f88 := f73.ext E80
  have f89 := f74.ext E80
  have f90 := f75.ext E80
  have f91 := f76.ext E80
  have V80 : Arv Z h80 b80 k80 .int (32 : Int32) (List.replicate 32 (.int (0 : Int32))) (.int (0 : Int32)) := (Arv.new A80 (by decide)).pad (pad_rep [] (.int (0 : Int32)) 32)
  have K92 := Keep.ext K77 E80
  have Z93 := Nat.le_trans Z78 E80.1
  refine own_st (F' := T80.setTop (mkF m 33 #[.val (.ref a1), .val (.int p1), .unset] [(.ref b80), (.ref a1)])) st80 ?_
  obtain ⟨T94, h94, X94, e94, W94, st94⟩ := putF X80 hx hZ hown (host := "") (Or.inl (hw _ (List.mem_of_getElem? (i := 17) rfl))) Via.refl e80 f86 f81 (Or.inl (hw _ (List.mem_of_getElem? (i := 18) rfl))) (hw _ (List.mem_of_getElem? (i := 2) rfl)) (ty := (.array .int)) (by decide) rfl rfl (g := (mkF m 33 #[.val (.ref a1), .val (.int p1), .unset] [(.ref b80), (.ref a1)])) rfl rfl (hb hby d1_33)
  have f95 := f81.wr W94
  have f96 := f82.other W94 (Or.inr (slot_ne (Or.inr (hw _ (List.mem_of_getElem? (i := 22) rfl))) (Or.inl (hw _ (List.mem_of_getElem? (i := 18) rfl))) (by decide) (t := .int) (t' := (.array .int)) (by decide) (by decide)))
  have f97 := f83.other W94 (Or.inr (slot_ne (Or.inl (hw _ (List.mem_of_getElem? (i := 12) rfl))) (Or.inl (hw _ (List.mem_of_getElem? (i := 18) rfl))) (by decide) (t := (.array .int)) (t' := (.array .int)) (by decide) (by decide)))
  have f98 := f84.other W94 (Or.inr (slot_ne (Or.inl (hw _ (List.mem_of_getElem? (i := 14) rfl))) (Or.inl (hw _ (List.mem_of_getElem? (i := 18) rfl))) (by decide) (t := (.array .int)) (t' := (.array .int)) (by decide) (by decide)))
  have f99 := f85.other W94 (Or.inr (slot_ne (Or.inl (hw _ (List.mem_of_getElem? (i := 16) rfl))) (Or.inl (hw _ (List.mem_of_getElem? (i := 18) rfl))) (by decide) (t := (.array .int)) (t' := (.array .int)) (by decide) (by decide)))
  have f100 := f86.same W94
  have f101 := f87.other W94 (Or.inr (slot_ne (Or.inl (hw _ (List.mem_of_getElem? (i := 24) rfl))) (Or.inl (hw _ (List.mem_of_getElem? (i := 18) rfl))) (by decide) (t := .int) (t' := (.array .int)) (by decide) (by decide)))
  have f102 := f88.other W94 (Or.inr (slot_ne (Or.inl (hw _ (List.mem_of_getElem? (i := 20) rfl))) (Or.inl (hw _ (List.mem_of_getElem? (i := 18) rfl))) (by decide) (t := .int) (t' := (.array .int)) (by decide) (by decide)))
  have f103 := f89.other W94 (Ne.symm ne_a1_b2)
  have f104 := f90.other W94 (Ne.symm ne_a1_b26)
  have f105 := f91.other W94 (Ne.symm ne_a1_b52)
  have f106 := V80.other W94 (Ne.symm ne_a1_b80)
  have K107 := Keep.wr K92 W94 (Or.inl (List.mem_of_getElem? (i := 0) rfl))
  have Z108 := Nat.le_trans Z93 (Keep.of_wr W94).1
  have N109 := Fr.snoc X94 N79 g_a
  refine own_st (F' := T94.setTop (mkF m 36 #[.val (.ref a1), .val (.int p1), .unset] [])) st94 ?_
  refine own_st (F' := T94.setTop (mkF m 37 #[.val (.ref a1), .val (.int p1), .unset] [(.ref a1)])) (fun t_ kk => XS.aloadN X94.here hx rfl (hb hby d1_36) rfl rfl kk) ?_
  refine own_st (F' := T94.setTop (mkF m 38 #[.val (.ref a1), .val (.int p1), .unset] [(.int (1 : Int32)), (.ref a1)])) (fun t_ kk => XS.iconst X94.here hx rfl (hb hby d1_37) kk) ?_
  obtain ⟨T110, h110, X110, e110, W110, st110⟩ := putF X94 hx hZ hown (host := "") (Or.inl (hw _ (List.mem_of_getElem? (i := 19) rfl))) Via.refl e94 f102 f95 (Or.inl (hw _ (List.mem_of_getElem? (i := 20) rfl))) (hw _ (List.mem_of_getElem? (i := 2) rfl)) (ty := .int) (by decide) rfl rfl (g := (mkF m 38 #[.val (.ref a1), .val (.int p1), .unset] [(.int (1 : Int32)), (.ref a1)])) rfl rfl (hb hby d1_38)
  have f111 := f95.wr W110
  have f112 := f96.other W110 (Or.inr (slot_ne (Or.inr (hw _ (List.mem_of_getElem? (i := 22) rfl))) (Or.inl (hw _ (List.mem_of_getElem? (i := 20) rfl))) (by decide) (t := .int) (t' := .int) (by decide) (by decide)))
  have f113 := f97.other W110 (Or.inr (slot_ne (Or.inl (hw _ (List.mem_of_getElem? (i := 12) rfl))) (Or.inl (hw _ (List.mem_of_getElem? (i := 20) rfl))) (by decide) (t := (.array .int)) (t' := .int) (by decide) (by decide)))
  have f114 := f98.other W110 (Or.inr (slot_ne (Or.inl (hw _ (List.mem_of_getElem? (i := 14) rfl))) (Or.inl (hw _ (List.mem_of_getElem? (i := 20) rfl))) (by decide) (t := (.array .int)) (t' := .int) (by decide) (by decide)))
  have f115 := f99.other W110 (Or.inr (slot_ne (Or.inl (hw _ (List.mem_of_getElem? (i := 16) rfl))) (Or.inl (hw _ (List.mem_of_getElem? (i := 20) rfl))) (by decide) (t := (.array .int)) (t' := .int) (by decide) (by decide)))
  have f116 := f100.other W110 (Or.inr (slot_ne (Or.inl (hw _ (List.mem_of_getElem? (i := 18) rfl))) (Or.inl (hw _ (List.mem_of_getElem? (i := 20) rfl))) (by decide) (t := (.array .int)) (t' := .int) (by decide) (by decide)))
  have f117 := f101.other W110 (Or.inr (slot_ne (Or.inl (hw _ (List.mem_of_getElem? (i := 24) rfl))) (Or.inl (hw _ (List.mem_of_getElem? (i := 20) rfl))) (by decide) (t := .int) (t' := .int) (by decide) (by decide)))
  have f118 := f102.same W110
  have f119 := f103.other W110 (Ne.symm ne_a1_b2)
  have f120 := f104.other W110 (Ne.symm ne_a1_b26)
  have f121 := f105.other W110 (Ne.symm ne_a1_b52)
  have f122 := f106.other W110 (Ne.symm ne_a1_b80)
  have K123 := Keep.wr K107 W110 (Or.inl (List.mem_of_getElem? (i := 0) rfl))
  have Z124 := Nat.le_trans Z108 (Keep.of_wr W110).1
  have N125 := Fr.snoc X110 N109 g_a
  refine own_st (F' := T110.setTop (mkF m 41 #[.val (.ref a1), .val (.int p1), .unset] [])) st110 ?_
  refine own_st (F' := T110.setTop (mkF m 42 #[.val (.ref a1), .val (.int p1), .unset] [(.int (0 : Int32))])) (fun t_ kk => XS.iconst X110.here hx rfl (hb hby d1_41) kk) ?_
  refine own_st (F' := T110.setTop (mkF m 43 #[.val (.ref a1), .val (.int p1), .val (.int (0 : Int32))] [])) (fun t_ kk => XS.istoreN X110.here hx rfl (hb hby d1_42) rfl (l' := #[.val (.ref a1), .val (.int p1), .val (.int (0 : Int32))]) rfl kk) ?_
  refine own_st (F' := T110.setTop (mkF m 44 #[.val (.ref a1), .val (.int p1), .val (.int (0 : Int32))] [(.long (1 : Int64))])) (fun t_ kk => XS.lconst X110.here hx rfl (hb hby d1_43) kk) ?_
  refine own_st (F' := T110.setTop (mkF m 45 #[.val (.ref a1), .val (.int p1), .val (.int (0 : Int32))] [(.int (0 : Int32)), (.long (1 : Int64))])) (fun t_ kk => XS.iloadN X110.here hx rfl (hb hby d1_44) rfl kk) ?_
  refine own_st (F' := T110.setTop (mkF m 46 #[.val (.ref a1), .val (.int p1), .val (.int (0 : Int32))] [(.long ((1 : Int64) <<< ((0 : Int32) &&& 0x3f).toInt64))])) (fun t_ kk => XS.lshl X110.here hx rfl (hb hby d1_45) rfl kk) ?_
  refine own_st (F' := T110.setTop (mkF m 47 #[.val (.ref a1), .val (.int p1), .val (.int (0 : Int32))] [(.int p1), (.long ((1 : Int64) <<< ((0 : Int32) &&& 0x3f).toInt64))])) (fun t_ kk => XS.iloadN X110.here hx rfl (hb hby d1_46) rfl kk) ?_
  refine own_st (F' := T110.setTop (mkF m 48 #[.val (.ref a1), .val (.int p1), .val (.int (0 : Int32))] [(.long (p1.toInt64)), (.long ((1 : Int64) <<< ((0 : Int32) &&& 0x3f).toInt64))])) (fun t_ kk => XS.i2l X110.here hx rfl (hb hby d1_47) rfl kk) ?_
  refine own_st (F' := T110.setTop (mkF m 49 #[.val (.ref a1), .val (.int p1), .val (.int (0 : Int32))] [(.int (lcmpW ((1 : Int64) <<< ((0 : Int32) &&& 0x3f).toInt64) (p1.toInt64)))])) (fun t_ kk => XS.lcmp X110.here hx rfl (hb hby d1_48) rfl kk) ?_
  by_cases hc126 : 1 < p1.toInt
  · -- pc 49: 1 < p1.toInt
    refine own_st (F' := T110.setTop (mkF m 52 #[.val (.ref a1), .val (.int p1), .val (.int (0 : Int32))] [])) (fun t_ kk => XS.ifNo X110.here hx rfl (hb hby d1_49) rfl ((if0 _ _).trans (tlt ((own_lev0 p1).mpr hc126)).2.1) kk) ?_
    refine own_st (F' := T110.setTop (mkF m 55 #[.val (.ref a1), .val (.int p1), .val (.int (1 : Int32))] [])) (fun t_ kk => XS.iinc X110.here hx rfl (hb hby d1_52) rfl (l' := #[.val (.ref a1), .val (.int p1), .val (.int (1 : Int32))]) rfl kk) ?_
    refine own_st (F' := T110.setTop (mkF m 43 #[.val (.ref a1), .val (.int p1), .val (.int (1 : Int32))] [])) (fun t_ kk => XS.goto X110.here hx rfl (pc0 := 55) (pc' := 43) rfl (hb hby d1_55) (by decide) (by decide) kk) ?_
    refine own_st (F' := T110.setTop (mkF m 44 #[.val (.ref a1), .val (.int p1), .val (.int (1 : Int32))] [(.long (1 : Int64))])) (fun t_ kk => XS.lconst X110.here hx rfl (hb hby d1_43) kk) ?_
    refine own_st (F' := T110.setTop (mkF m 45 #[.val (.ref a1), .val (.int p1), .val (.int (1 : Int32))] [(.int (1 : Int32)), (.long (1 : Int64))])) (fun t_ kk => XS.iloadN X110.here hx rfl (hb hby d1_44) rfl kk) ?_
    refine own_st (F' := T110.setTop (mkF m 46 #[.val (.ref a1), .val (.int p1), .val (.int (1 : Int32))] [(.long ((1 : Int64) <<< ((1 : Int32) &&& 0x3f).toInt64))])) (fun t_ kk => XS.lshl X110.here hx rfl (hb hby d1_45) rfl kk) ?_
    refine own_st (F' := T110.setTop (mkF m 47 #[.val (.ref a1), .val (.int p1), .val (.int (1 : Int32))] [(.int p1), (.long ((1 : Int64) <<< ((1 : Int32) &&& 0x3f).toInt64))])) (fun t_ kk => XS.iloadN X110.here hx rfl (hb hby d1_46) rfl kk) ?_
    refine own_st (F' := T110.setTop (mkF m 48 #[.val (.ref a1), .val (.int p1), .val (.int (1 : Int32))] [(.long (p1.toInt64)), (.long ((1 : Int64) <<< ((1 : Int32) &&& 0x3f).toInt64))])) (fun t_ kk => XS.i2l X110.here hx rfl (hb hby d1_47) rfl kk) ?_
    refine own_st (F' := T110.setTop (mkF m 49 #[.val (.ref a1), .val (.int p1), .val (.int (1 : Int32))] [(.int (lcmpW ((1 : Int64) <<< ((1 : Int32) &&& 0x3f).toInt64) (p1.toInt64)))])) (fun t_ kk => XS.lcmp X110.here hx rfl (hb hby d1_48) rfl kk) ?_
    by_cases hc127 : 2 < p1.toInt
    · -- pc 49: 2 < p1.toInt
      refine own_st (F' := T110.setTop (mkF m 52 #[.val (.ref a1), .val (.int p1), .val (.int (1 : Int32))] [])) (fun t_ kk => XS.ifNo X110.here hx rfl (hb hby d1_49) rfl ((if0 _ _).trans (tlt ((own_lev1 p1).mpr hc127)).2.1) kk) ?_
      refine own_st (F' := T110.setTop (mkF m 55 #[.val (.ref a1), .val (.int p1), .val (.int (2 : Int32))] [])) (fun t_ kk => XS.iinc X110.here hx rfl (hb hby d1_52) rfl (l' := #[.val (.ref a1), .val (.int p1), .val (.int (2 : Int32))]) rfl kk) ?_
      refine own_st (F' := T110.setTop (mkF m 43 #[.val (.ref a1), .val (.int p1), .val (.int (2 : Int32))] [])) (fun t_ kk => XS.goto X110.here hx rfl (pc0 := 55) (pc' := 43) rfl (hb hby d1_55) (by decide) (by decide) kk) ?_
      refine own_st (F' := T110.setTop (mkF m 44 #[.val (.ref a1), .val (.int p1), .val (.int (2 : Int32))] [(.long (1 : Int64))])) (fun t_ kk => XS.lconst X110.here hx rfl (hb hby d1_43) kk) ?_
      refine own_st (F' := T110.setTop (mkF m 45 #[.val (.ref a1), .val (.int p1), .val (.int (2 : Int32))] [(.int (2 : Int32)), (.long (1 : Int64))])) (fun t_ kk => XS.iloadN X110.here hx rfl (hb hby d1_44) rfl kk) ?_
      refine own_st (F' := T110.setTop (mkF m 46 #[.val (.ref a1), .val (.int p1), .val (.int (2 : Int32))] [(.long ((1 : Int64) <<< ((2 : Int32) &&& 0x3f).toInt64))])) (fun t_ kk => XS.lshl X110.here hx rfl (hb hby d1_45) rfl kk) ?_
      refine own_st (F' := T110.setTop (mkF m 47 #[.val (.ref a1), .val (.int p1), .val (.int (2 : Int32))] [(.int p1), (.long ((1 : Int64) <<< ((2 : Int32) &&& 0x3f).toInt64))])) (fun t_ kk => XS.iloadN X110.here hx rfl (hb hby d1_46) rfl kk) ?_
      refine own_st (F' := T110.setTop (mkF m 48 #[.val (.ref a1), .val (.int p1), .val (.int (2 : Int32))] [(.long (p1.toInt64)), (.long ((1 : Int64) <<< ((2 : Int32) &&& 0x3f).toInt64))])) (fun t_ kk => XS.i2l X110.here hx rfl (hb hby d1_47) rfl kk) ?_
      refine own_st (F' := T110.setTop (mkF m 49 #[.val (.ref a1), .val (.int p1), .val (.int (2 : Int32))] [(.int (lcmpW ((1 : Int64) <<< ((2 : Int32) &&& 0x3f).toInt64) (p1.toInt64)))])) (fun t_ kk => XS.lcmp X110.here hx rfl (hb hby d1_48) rfl kk) ?_
      by_cases hc128 : 4 < p1.toInt
      · -- pc 49: 4 < p1.toInt
        refine own_st (F' := T110.setTop (mkF m 52 #[.val (.ref a1), .val (.int p1), .val (.int (2 : Int32))] [])) (fun t_ kk => XS.ifNo X110.here hx rfl (hb hby d1_49) rfl ((if0 _ _).trans (tlt ((own_lev2 p1).mpr hc128)).2.1) kk) ?_
        refine own_st (F' := T110.setTop (mkF m 55 #[.val (.ref a1), .val (.int p1), .val (.int (3 : Int32))] [])) (fun t_ kk => XS.iinc X110.here hx rfl (hb hby d1_52) rfl (l' := #[.val (.ref a1), .val (.int p1), .val (.int (3 : Int32))]) rfl kk) ?_
        refine own_st (F' := T110.setTop (mkF m 43 #[.val (.ref a1), .val (.int p1), .val (.int (3 : Int32))] [])) (fun t_ kk => XS.goto X110.here hx rfl (pc0 := 55) (pc' := 43) rfl (hb hby d1_55) (by decide) (by decide) kk) ?_
        refine own_st (F' := T110.setTop (mkF m 44 #[.val (.ref a1), .val (.int p1), .val (.int (3 : Int32))] [(.long (1 : Int64))])) (fun t_ kk => XS.lconst X110.here hx rfl (hb hby d1_43) kk) ?_
        refine own_st (F' := T110.setTop (mkF m 45 #[.val (.ref a1), .val (.int p1), .val (.int (3 : Int32))] [(.int (3 : Int32)), (.long (1 : Int64))])) (fun t_ kk => XS.iloadN X110.here hx rfl (hb hby d1_44) rfl kk) ?_
        refine own_st (F' := T110.setTop (mkF m 46 #[.val (.ref a1), .val (.int p1), .val (.int (3 : Int32))] [(.long ((1 : Int64) <<< ((3 : Int32) &&& 0x3f).toInt64))])) (fun t_ kk => XS.lshl X110.here hx rfl (hb hby d1_45) rfl kk) ?_
        refine own_st (F' := T110.setTop (mkF m 47 #[.val (.ref a1), .val (.int p1), .val (.int (3 : Int32))] [(.int p1), (.long ((1 : Int64) <<< ((3 : Int32) &&& 0x3f).toInt64))])) (fun t_ kk => XS.iloadN X110.here hx rfl (hb hby d1_46) rfl kk) ?_
        refine own_st (F' := T110.setTop (mkF m 48 #[.val (.ref a1), .val (.int p1), .val (.int (3 : Int32))] [(.long (p1.toInt64)), (.long ((1 : Int64) <<< ((3 : Int32) &&& 0x3f).toInt64))])) (fun t_ kk => XS.i2l X110.here hx rfl (hb hby d1_47) rfl kk) ?_
        refine own_st (F' := T110.setTop (mkF m 49 #[.val (.ref a1), .val (.int p1), .val (.int (3 : Int32))] [(.int (lcmpW ((1 : Int64) <<< ((3 : Int32) &&& 0x3f).toInt64) (p1.toInt64)))])) (fun t_ kk => XS.lcmp X110.here hx rfl (hb hby d1_48) rfl kk) ?_
        by_cases hc129 : 8 < p1.toInt
        · -- pc 49: 8 < p1.toInt
          refine own_st (F' := T110.setTop (mkF m 52 #[.val (.ref a1), .val (.int p1), .val (.int (3 : Int32))] [])) (fun t_ kk => XS.ifNo X110.here hx rfl (hb hby d1_49) rfl ((if0 _ _).trans (tlt ((own_lev3 p1).mpr hc129)).2.1) kk) ?_
          refine own_st (F' := T110.setTop (mkF m 55 #[.val (.ref a1), .val (.int p1), .val (.int (4 : Int32))] [])) (fun t_ kk => XS.iinc X110.here hx rfl (hb hby d1_52) rfl (l' := #[.val (.ref a1), .val (.int p1), .val (.int (4 : Int32))]) rfl kk) ?_
          refine own_st (F' := T110.setTop (mkF m 43 #[.val (.ref a1), .val (.int p1), .val (.int (4 : Int32))] [])) (fun t_ kk => XS.goto X110.here hx rfl (pc0 := 55) (pc' := 43) rfl (hb hby d1_55) (by decide) (by decide) kk) ?_
          refine own_st (F' := T110.setTop (mkF m 44 #[.val (.ref a1), .val (.int p1), .val (.int (4 : Int32))] [(.long (1 : Int64))])) (fun t_ kk => XS.lconst X110.here hx rfl (hb hby d1_43) kk) ?_
          refine own_st (F' := T110.setTop (mkF m 45 #[.val (.ref a1), .val (.int p1), .val (.int (4 : Int32))] [(.int (4 : Int32)), (.long (1 : Int64))])) (fun t_ kk => XS.iloadN X110.here hx rfl (hb hby d1_44) rfl kk) ?_
          refine own_st (F' := T110.setTop (mkF m 46 #[.val (.ref a1), .val (.int p1), .val (.int (4 : Int32))] [(.long ((1 : Int64) <<< ((4 : Int32) &&& 0x3f).toInt64))])) (fun t_ kk => XS.lshl X110.here hx rfl (hb hby d1_45) rfl kk) ?_
          refine own_st (F' := T110.setTop (mkF m 47 #[.val (.ref a1), .val (.int p1), .val (.int (4 : Int32))] [(.int p1), (.long ((1 : Int64) <<< ((4 : Int32) &&& 0x3f).toInt64))])) (fun t_ kk => XS.iloadN X110.here hx rfl (hb hby d1_46) rfl kk) ?_
          refine own_st (F' := T110.setTop (mkF m 48 #[.val (.ref a1), .val (.int p1), .val (.int (4 : Int32))] [(.long (p1.toInt64)), (.long ((1 : Int64) <<< ((4 : Int32) &&& 0x3f).toInt64))])) (fun t_ kk => XS.i2l X110.here hx rfl (hb hby d1_47) rfl kk) ?_
          refine own_st (F' := T110.setTop (mkF m 49 #[.val (.ref a1), .val (.int p1), .val (.int (4 : Int32))] [(.int (lcmpW ((1 : Int64) <<< ((4 : Int32) &&& 0x3f).toInt64) (p1.toInt64)))])) (fun t_ kk => XS.lcmp X110.here hx rfl (hb hby d1_48) rfl kk) ?_
          refine own_st (F' := T110.setTop (mkF m 58 #[.val (.ref a1), .val (.int p1), .val (.int (4 : Int32))] [])) (fun t_ kk => XS.ifYes X110.here hx rfl (pc0 := 49) (pc' := 58) rfl (hb hby d1_49) rfl ((if0 _ _).trans (flt (fun z => absurd ((own_lev4 p1).mp z) (by omega) : ¬ ((lcmpW ((1 : Int64) <<< ((4 : Int32) &&& 0x3f).toInt64) (p1.toInt64)) < (0 : Int32)))).2.1) (by decide) (by decide) kk) ?_
          refine own_st (F' := T110.setTop (mkF m 59 #[.val (.ref a1), .val (.int p1), .val (.int (4 : Int32))] [(.ref a1)])) (fun t_ kk => XS.aloadN X110.here hx rfl (hb hby d1_58) rfl rfl kk) ?_
          refine own_st (F' := T110.setTop (mkF m 60 #[.val (.ref a1), .val (.int p1), .val (.int (4 : Int32))] [(.int (4 : Int32)), (.ref a1)])) (fun t_ kk => XS.iloadN X110.here hx rfl (hb hby d1_59) rfl kk) ?_
          obtain ⟨T130, h130, X130, e130, W130, st130⟩ := putF X110 hx hZ hown (host := "") (Or.inl (hw _ (List.mem_of_getElem? (i := 21) rfl))) Via.refl e110 f112 f111 (Or.inr ⟨(hw _ (List.mem_of_getElem? (i := 22) rfl)), rfl, hnm⟩) (hw _ (List.mem_of_getElem? (i := 2) rfl)) (ty := .int) (by decide) rfl rfl (g := (mkF m 60 #[.val (.ref a1), .val (.int p1), .val (.int (4 : Int32))] [(.int (4 : Int32)), (.ref a1)])) rfl rfl (hb hby d1_60)
          have f131 := f111.wr W130
          have f132 := f112.same W130
          have f133 := f113.other W130 (Or.inr (slot_ne (Or.inl (hw _ (List.mem_of_getElem? (i := 12) rfl))) (Or.inr (hw _ (List.mem_of_getElem? (i := 22) rfl))) (by decide) (t := (.array .int)) (t' := .int) (by decide) (by decide)))
          have f134 := f114.other W130 (Or.inr (slot_ne (Or.inl (hw _ (List.mem_of_getElem? (i := 14) rfl))) (Or.inr (hw _ (List.mem_of_getElem? (i := 22) rfl))) (by decide) (t := (.array .int)) (t' := .int) (by decide) (by decide)))
          have f135 := f115.other W130 (Or.inr (slot_ne (Or.inl (hw _ (List.mem_of_getElem? (i := 16) rfl))) (Or.inr (hw _ (List.mem_of_getElem? (i := 22) rfl))) (by decide) (t := (.array .int)) (t' := .int) (by decide) (by decide)))
          have f136 := f116.other W130 (Or.inr (slot_ne (Or.inl (hw _ (List.mem_of_getElem? (i := 18) rfl))) (Or.inr (hw _ (List.mem_of_getElem? (i := 22) rfl))) (by decide) (t := (.array .int)) (t' := .int) (by decide) (by decide)))
          have f137 := f117.other W130 (Or.inr (slot_ne (Or.inl (hw _ (List.mem_of_getElem? (i := 24) rfl))) (Or.inr (hw _ (List.mem_of_getElem? (i := 22) rfl))) (by decide) (t := .int) (t' := .int) (by decide) (by decide)))
          have f138 := f118.other W130 (Or.inr (slot_ne (Or.inl (hw _ (List.mem_of_getElem? (i := 20) rfl))) (Or.inr (hw _ (List.mem_of_getElem? (i := 22) rfl))) (by decide) (t := .int) (t' := .int) (by decide) (by decide)))
          have f139 := f119.other W130 (Ne.symm ne_a1_b2)
          have f140 := f120.other W130 (Ne.symm ne_a1_b26)
          have f141 := f121.other W130 (Ne.symm ne_a1_b52)
          have f142 := f122.other W130 (Ne.symm ne_a1_b80)
          have K143 := Keep.wr K123 W130 (Or.inl (List.mem_of_getElem? (i := 0) rfl))
          have Z144 := Nat.le_trans Z124 (Keep.of_wr W130).1
          have N145 := Fr.snoc X130 N125 g_a
          refine own_st (F' := T130.setTop (mkF m 63 #[.val (.ref a1), .val (.int p1), .val (.int (4 : Int32))] [])) st130 ?_
          refine own_st (F' := T130.setTop (mkF m 64 #[.val (.ref a1), .val (.int p1), .val (.int (4 : Int32))] [(.ref a1)])) (fun t_ kk => XS.aloadN X130.here hx rfl (hb hby d1_63) rfl rfl kk) ?_
          refine own_st (F' := T130.setTop (mkF m 65 #[.val (.ref a1), .val (.int p1), .val (.int (4 : Int32))] [(.int (2 : Int32)), (.ref a1)])) (fun t_ kk => XS.iconst X130.here hx rfl (hb hby d1_64) kk) ?_
          obtain ⟨T146, h146, X146, e146, W146, st146⟩ := putF X130 hx hZ hown (host := "") (Or.inl (hw _ (List.mem_of_getElem? (i := 23) rfl))) Via.refl e130 f137 f131 (Or.inl (hw _ (List.mem_of_getElem? (i := 24) rfl))) (hw _ (List.mem_of_getElem? (i := 2) rfl)) (ty := .int) (by decide) rfl rfl (g := (mkF m 65 #[.val (.ref a1), .val (.int p1), .val (.int (4 : Int32))] [(.int (2 : Int32)), (.ref a1)])) rfl rfl (hb hby d1_65)
          have f147 := f131.wr W146
          have f148 := f132.other W146 (Or.inr (slot_ne (Or.inr (hw _ (List.mem_of_getElem? (i := 22) rfl))) (Or.inl (hw _ (List.mem_of_getElem? (i := 24) rfl))) (by decide) (t := .int) (t' := .int) (by decide) (by decide)))
          have f149 := f133.other W146 (Or.inr (slot_ne (Or.inl (hw _ (List.mem_of_getElem? (i := 12) rfl))) (Or.inl (hw _ (List.mem_of_getElem? (i := 24) rfl))) (by decide) (t := (.array .int)) (t' := .int) (by decide) (by decide)))
          have f150 := f134.other W146 (Or.inr (slot_ne (Or.inl (hw _ (List.mem_of_getElem? (i := 14) rfl))) (Or.inl (hw _ (List.mem_of_getElem? (i := 24) rfl))) (by decide) (t := (.array .int)) (t' := .int) (by decide) (by decide)))
          have f151 := f135.other W146 (Or.inr (slot_ne (Or.inl (hw _ (List.mem_of_getElem? (i := 16) rfl))) (Or.inl (hw _ (List.mem_of_getElem? (i := 24) rfl))) (by decide) (t := (.array .int)) (t' := .int) (by decide) (by decide)))
          have f152 := f136.other W146 (Or.inr (slot_ne (Or.inl (hw _ (List.mem_of_getElem? (i := 18) rfl))) (Or.inl (hw _ (List.mem_of_getElem? (i := 24) rfl))) (by decide) (t := (.array .int)) (t' := .int) (by decide) (by decide)))
          have f153 := f137.same W146
          have f154 := f138.other W146 (Or.inr (slot_ne (Or.inl (hw _ (List.mem_of_getElem? (i := 20) rfl))) (Or.inl (hw _ (List.mem_of_getElem? (i := 24) rfl))) (by decide) (t := .int) (t' := .int) (by decide) (by decide)))
          have f155 := f139.other W146 (Ne.symm ne_a1_b2)
          have f156 := f140.other W146 (Ne.symm ne_a1_b26)
          have f157 := f141.other W146 (Ne.symm ne_a1_b52)
          have f158 := f142.other W146 (Ne.symm ne_a1_b80)
          have K159 := Keep.wr K143 W146 (Or.inl (List.mem_of_getElem? (i := 0) rfl))
          have Z160 := Nat.le_trans Z144 (Keep.of_wr W146).1
          have N161 := Fr.snoc X146 N145 g_a
          refine own_st (F' := T146.setTop (mkF m 68 #[.val (.ref a1), .val (.int p1), .val (.int (4 : Int32))] [])) st146 ?_
          refine own_fin X146 none (fun _ => rfl) Bd.notSynchronized (by decide) (by decide) (fun fs hr => X146.returnOut hx Bd.returns (hb hby d1_68) hr) ?_
          rw [e146]
          have hD : oDep p1 = 4 := by
            unfold oDep; repeat' split
            all_goals omega
          unfold Q1; rw [hD]
          exact ⟨rfl, N161, K159, b2, b26, b52, b80, ⟨sz_b2, sz_b26, sz_b52, sz_b80⟩, ⟨ne_a1_b2, ne_a1_b26, ne_a1_b52, ne_a1_b80, ne_b2_b26, ne_b2_b52, ne_b2_b80, ne_b26_b52, ne_b26_b80, ne_b52_b80⟩, ⟨f147, f148, f149, f150, f151, f152, f153, f154, (OArr.zero f155 rfl), (OArr.zero f156 rfl), (OArr.zero f157 rfl), (OArr.zero f158 rfl)⟩⟩
        · -- pc 49: not 8 < p1.toInt
          refine own_st (F' := T110.setTop (mkF m 58 #[.val (.ref a1), .val (.int p1), .val (.int (3 : Int32))] [])) (fun t_ kk => XS.ifYes X110.here hx rfl (pc0 := 49) (pc' := 58) rfl (hb hby d1_49) rfl ((if0 _ _).trans (flt (fun z => hc129 ((own_lev3 p1).mp z))).2.1) (by decide) (by decide) kk) ?_
          refine own_st (F' := T110.setTop (mkF m 59 #[.val (.ref a1), .val (.int p1), .val (.int (3 : Int32))] [(.ref a1)])) (fun t_ kk => XS.aloadN X110.here hx rfl (hb hby d1_58) rfl rfl kk) ?_
          refine own_st (F' := T110.setTop (mkF m 60 #[.val (.ref a1), .val (.int p1), .val (.int (3 : Int32))] [(.int (3 : Int32)), (.ref a1)])) (fun t_ kk => XS.iloadN X110.here hx rfl (hb hby d1_59) rfl kk) ?_
          obtain ⟨T162, h162, X162, e162, W162, st162⟩ := putF X110 hx hZ hown (host := "") (Or.inl (hw _ (List.mem_of_getElem? (i := 21) rfl))) Via.refl e110 f112 f111 (Or.inr ⟨(hw _ (List.mem_of_getElem? (i := 22) rfl)), rfl, hnm⟩) (hw _ (List.mem_of_getElem? (i := 2) rfl)) (ty := .int) (by decide) rfl rfl (g := (mkF m 60 #[.val (.ref a1), .val (.int p1), .val (.int (3 : Int32))] [(.int (3 : Int32)), (.ref a1)])) rfl rfl (hb hby d1_60)
          have f163 := f111.wr W162
          have f164 := f112.same W162
          have f165 := f113.other W162 (Or.inr (slot_ne (Or.inl (hw _ (List.mem_of_getElem? (i := 12) rfl))) (Or.inr (hw _ (List.mem_of_getElem? (i := 22) rfl))) (by decide) (t := (.array .int)) (t' := .int) (by decide) (by decide)))
          have f166 := f114.other W162 (Or.inr (slot_ne (Or.inl (hw _ (List.mem_of_getElem? (i := 14) rfl))) (Or.inr (hw _ (List.mem_of_getElem? (i := 22) rfl))) (by decide) (t := (.array .int)) (t' := .int) (by decide) (by decide)))
          have f167 := f115.other W162 (Or.inr (slot_ne (Or.inl (hw _ (List.mem_of_getElem? (i := 16) rfl))) (Or.inr (hw _ (List.mem_of_getElem? (i := 22) rfl))) (by decide) (t := (.array .int)) (t' := .int) (by decide) (by decide)))
          have f168 := f116.other W162 (Or.inr (slot_ne (Or.inl (hw _ (List.mem_of_getElem? (i := 18) rfl))) (Or.inr (hw _ (List.mem_of_getElem? (i := 22) rfl))) (by decide) (t := (.array .int)) (t' := .int) (by decide) (by decide)))
          have f169 := f117.other W162 (Or.inr (slot_ne (Or.inl (hw _ (List.mem_of_getElem? (i := 24) rfl))) (Or.inr (hw _ (List.mem_of_getElem? (i := 22) rfl))) (by decide) (t := .int) (t' := .int) (by decide) (by decide)))
          have f170 := f118.other W162 (Or.inr (slot_ne (Or.inl (hw _ (List.mem_of_getElem? (i := 20) rfl))) (Or.inr (hw _ (List.mem_of_getElem? (i := 22) rfl))) (by decide) (t := .int) (t' := .int) (by decide) (by decide)))
          have f171 := f119.other W162 (Ne.symm ne_a1_b2)
          have f172 := f120.other W162 (Ne.symm ne_a1_b26)
          have f173 := f121.other W162 (Ne.symm ne_a1_b52)
          have f174 := f122.other W162 (Ne.symm ne_a1_b80)
          have K175 := Keep.wr K123 W162 (Or.inl (List.mem_of_getElem? (i := 0) rfl))
          have Z176 := Nat.le_trans Z124 (Keep.of_wr W162).1
          have N177 := Fr.snoc X162 N125 g_a
          refine own_st (F' := T162.setTop (mkF m 63 #[.val (.ref a1), .val (.int p1), .val (.int (3 : Int32))] [])) st162 ?_
          refine own_st (F' := T162.setTop (mkF m 64 #[.val (.ref a1), .val (.int p1), .val (.int (3 : Int32))] [(.ref a1)])) (fun t_ kk => XS.aloadN X162.here hx rfl (hb hby d1_63) rfl rfl kk) ?_
          refine own_st (F' := T162.setTop (mkF m 65 #[.val (.ref a1), .val (.int p1), .val (.int (3 : Int32))] [(.int (2 : Int32)), (.ref a1)])) (fun t_ kk => XS.iconst X162.here hx rfl (hb hby d1_64) kk) ?_
          obtain ⟨T178, h178, X178, e178, W178, st178⟩ := putF X162 hx hZ hown (host := "") (Or.inl (hw _ (List.mem_of_getElem? (i := 23) rfl))) Via.refl e162 f169 f163 (Or.inl (hw _ (List.mem_of_getElem? (i := 24) rfl))) (hw _ (List.mem_of_getElem? (i := 2) rfl)) (ty := .int) (by decide) rfl rfl (g := (mkF m 65 #[.val (.ref a1), .val (.int p1), .val (.int (3 : Int32))] [(.int (2 : Int32)), (.ref a1)])) rfl rfl (hb hby d1_65)
          have f179 := f163.wr W178
          have f180 := f164.other W178 (Or.inr (slot_ne (Or.inr (hw _ (List.mem_of_getElem? (i := 22) rfl))) (Or.inl (hw _ (List.mem_of_getElem? (i := 24) rfl))) (by decide) (t := .int) (t' := .int) (by decide) (by decide)))
          have f181 := f165.other W178 (Or.inr (slot_ne (Or.inl (hw _ (List.mem_of_getElem? (i := 12) rfl))) (Or.inl (hw _ (List.mem_of_getElem? (i := 24) rfl))) (by decide) (t := (.array .int)) (t' := .int) (by decide) (by decide)))
          have f182 := f166.other W178 (Or.inr (slot_ne (Or.inl (hw _ (List.mem_of_getElem? (i := 14) rfl))) (Or.inl (hw _ (List.mem_of_getElem? (i := 24) rfl))) (by decide) (t := (.array .int)) (t' := .int) (by decide) (by decide)))
          have f183 := f167.other W178 (Or.inr (slot_ne (Or.inl (hw _ (List.mem_of_getElem? (i := 16) rfl))) (Or.inl (hw _ (List.mem_of_getElem? (i := 24) rfl))) (by decide) (t := (.array .int)) (t' := .int) (by decide) (by decide)))
          have f184 := f168.other W178 (Or.inr (slot_ne (Or.inl (hw _ (List.mem_of_getElem? (i := 18) rfl))) (Or.inl (hw _ (List.mem_of_getElem? (i := 24) rfl))) (by decide) (t := (.array .int)) (t' := .int) (by decide) (by decide)))
          have f185 := f169.same W178
          have f186 := f170.other W178 (Or.inr (slot_ne (Or.inl (hw _ (List.mem_of_getElem? (i := 20) rfl))) (Or.inl (hw _ (List.mem_of_getElem? (i := 24) rfl))) (by decide) (t := .int) (t' := .int) (by decide) (by decide)))
          have f187 := f171.other W178 (Ne.symm ne_a1_b2)
          have f188 := f172.other W178 (Ne.symm ne_a1_b26)
          have f189 := f173.other W178 (Ne.symm ne_a1_b52)
          have f190 := f174.other W178 (Ne.symm ne_a1_b80)
          have K191 := Keep.wr K175 W178 (Or.inl (List.mem_of_getElem? (i := 0) rfl))
          have Z192 := Nat.le_trans Z176 (Keep.of_wr W178).1
          have N193 := Fr.snoc X178 N177 g_a
          refine own_st (F' := T178.setTop (mkF m 68 #[.val (.ref a1), .val (.int p1), .val (.int (3 : Int32))] [])) st178 ?_
          refine own_fin X178 none (fun _ => rfl) Bd.notSynchronized (by decide) (by decide) (fun fs hr => X178.returnOut hx Bd.returns (hb hby d1_68) hr) ?_
          rw [e178]
          have hD : oDep p1 = 3 := by
            unfold oDep; repeat' split
            all_goals omega
          unfold Q1; rw [hD]
          exact ⟨rfl, N193, K191, b2, b26, b52, b80, ⟨sz_b2, sz_b26, sz_b52, sz_b80⟩, ⟨ne_a1_b2, ne_a1_b26, ne_a1_b52, ne_a1_b80, ne_b2_b26, ne_b2_b52, ne_b2_b80, ne_b26_b52, ne_b26_b80, ne_b52_b80⟩, ⟨f179, f180, f181, f182, f183, f184, f185, f186, (OArr.zero f187 rfl), (OArr.zero f188 rfl), (OArr.zero f189 rfl), (OArr.zero f190 rfl)⟩⟩
      · -- pc 49: not 4 < p1.toInt
        refine own_st (F' := T110.setTop (mkF m 58 #[.val (.ref a1), .val (.int p1), .val (.int (2 : Int32))] [])) (fun t_ kk => XS.ifYes X110.here hx rfl (pc0 := 49) (pc' := 58) rfl (hb hby d1_49) rfl ((if0 _ _).trans (flt (fun z => hc128 ((own_lev2 p1).mp z))).2.1) (by decide) (by decide) kk) ?_
        refine own_st (F' := T110.setTop (mkF m 59 #[.val (.ref a1), .val (.int p1), .val (.int (2 : Int32))] [(.ref a1)])) (fun t_ kk => XS.aloadN X110.here hx rfl (hb hby d1_58) rfl rfl kk) ?_
        refine own_st (F' := T110.setTop (mkF m 60 #[.val (.ref a1), .val (.int p1), .val (.int (2 : Int32))] [(.int (2 : Int32)), (.ref a1)])) (fun t_ kk => XS.iloadN X110.here hx rfl (hb hby d1_59) rfl kk) ?_
        obtain ⟨T194, h194, X194, e194, W194, st194⟩ := putF X110 hx hZ hown (host := "") (Or.inl (hw _ (List.mem_of_getElem? (i := 21) rfl))) Via.refl e110 f112 f111 (Or.inr ⟨(hw _ (List.mem_of_getElem? (i := 22) rfl)), rfl, hnm⟩) (hw _ (List.mem_of_getElem? (i := 2) rfl)) (ty := .int) (by decide) rfl rfl (g := (mkF m 60 #[.val (.ref a1), .val (.int p1), .val (.int (2 : Int32))] [(.int (2 : Int32)), (.ref a1)])) rfl rfl (hb hby d1_60)
        have f195 := f111.wr W194
        have f196 := f112.same W194
        have f197 := f113.other W194 (Or.inr (slot_ne (Or.inl (hw _ (List.mem_of_getElem? (i := 12) rfl))) (Or.inr (hw _ (List.mem_of_getElem? (i := 22) rfl))) (by decide) (t := (.array .int)) (t' := .int) (by decide) (by decide)))
        have f198 := f114.other W194 (Or.inr (slot_ne (Or.inl (hw _ (List.mem_of_getElem? (i := 14) rfl))) (Or.inr (hw _ (List.mem_of_getElem? (i := 22) rfl))) (by decide) (t := (.array .int)) (t' := .int) (by decide) (by decide)))
        have f199 := f115.other W194 (Or.inr (slot_ne (Or.inl (hw _ (List.mem_of_getElem? (i := 16) rfl))) (Or.inr (hw _ (List.mem_of_getElem? (i := 22) rfl))) (by decide) (t := (.array .int)) (t' := .int) (by decide) (by decide)))
        have f200 := f116.other W194 (Or.inr (slot_ne (Or.inl (hw _ (List.mem_of_getElem? (i := 18) rfl))) (Or.inr (hw _ (List.mem_of_getElem? (i := 22) rfl))) (by decide) (t := (.array .int)) (t' := .int) (by decide) (by decide)))
        have f201 := f117.other W194 (Or.inr (slot_ne (Or.inl (hw _ (List.mem_of_getElem? (i := 24) rfl))) (Or.inr (hw _ (List.mem_of_getElem? (i := 22) rfl))) (by decide) (t := .int) (t' := .int) (by decide) (by decide)))
        have f202 := f118.other W194 (Or.inr (slot_ne (Or.inl (hw _ (List.mem_of_getElem? (i := 20) rfl))) (Or.inr (hw _ (List.mem_of_getElem? (i := 22) rfl))) (by decide) (t := .int) (t' := .int) (by decide) (by decide)))
        have f203 := f119.other W194 (Ne.symm ne_a1_b2)
        have f204 := f120.other W194 (Ne.symm ne_a1_b26)
        have f205 := f121.other W194 (Ne.symm ne_a1_b52)
        have f206 := f122.other W194 (Ne.symm ne_a1_b80)
        have K207 := Keep.wr K123 W194 (Or.inl (List.mem_of_getElem? (i := 0) rfl))
        have Z208 := Nat.le_trans Z124 (Keep.of_wr W194).1
        have N209 := Fr.snoc X194 N125 g_a
        refine own_st (F' := T194.setTop (mkF m 63 #[.val (.ref a1), .val (.int p1), .val (.int (2 : Int32))] [])) st194 ?_
        refine own_st (F' := T194.setTop (mkF m 64 #[.val (.ref a1), .val (.int p1), .val (.int (2 : Int32))] [(.ref a1)])) (fun t_ kk => XS.aloadN X194.here hx rfl (hb hby d1_63) rfl rfl kk) ?_
        refine own_st (F' := T194.setTop (mkF m 65 #[.val (.ref a1), .val (.int p1), .val (.int (2 : Int32))] [(.int (2 : Int32)), (.ref a1)])) (fun t_ kk => XS.iconst X194.here hx rfl (hb hby d1_64) kk) ?_
        obtain ⟨T210, h210, X210, e210, W210, st210⟩ := putF X194 hx hZ hown (host := "") (Or.inl (hw _ (List.mem_of_getElem? (i := 23) rfl))) Via.refl e194 f201 f195 (Or.inl (hw _ (List.mem_of_getElem? (i := 24) rfl))) (hw _ (List.mem_of_getElem? (i := 2) rfl)) (ty := .int) (by decide) rfl rfl (g := (mkF m 65 #[.val (.ref a1), .val (.int p1), .val (.int (2 : Int32))] [(.int (2 : Int32)), (.ref a1)])) rfl rfl (hb hby d1_65)
        have f211 := f195.wr W210
        have f212 := f196.other W210 (Or.inr (slot_ne (Or.inr (hw _ (List.mem_of_getElem? (i := 22) rfl))) (Or.inl (hw _ (List.mem_of_getElem? (i := 24) rfl))) (by decide) (t := .int) (t' := .int) (by decide) (by decide)))
        have f213 := f197.other W210 (Or.inr (slot_ne (Or.inl (hw _ (List.mem_of_getElem? (i := 12) rfl))) (Or.inl (hw _ (List.mem_of_getElem? (i := 24) rfl))) (by decide) (t := (.array .int)) (t' := .int) (by decide) (by decide)))
        have f214 := f198.other W210 (Or.inr (slot_ne (Or.inl (hw _ (List.mem_of_getElem? (i := 14) rfl))) (Or.inl (hw _ (List.mem_of_getElem? (i := 24) rfl))) (by decide) (t := (.array .int)) (t' := .int) (by decide) (by decide)))
        have f215 := f199.other W210 (Or.inr (slot_ne (Or.inl (hw _ (List.mem_of_getElem? (i := 16) rfl))) (Or.inl (hw _ (List.mem_of_getElem? (i := 24) rfl))) (by decide) (t := (.array .int)) (t' := .int) (by decide) (by decide)))
        have f216 := f200.other W210 (Or.inr (slot_ne (Or.inl (hw _ (List.mem_of_getElem? (i := 18) rfl))) (Or.inl (hw _ (List.mem_of_getElem? (i := 24) rfl))) (by decide) (t := (.array .int)) (t' := .int) (by decide) (by decide)))
        have f217 := f201.same W210
        have f218 := f202.other W210 (Or.inr (slot_ne (Or.inl (hw _ (List.mem_of_getElem? (i := 20) rfl))) (Or.inl (hw _ (List.mem_of_getElem? (i := 24) rfl))) (by decide) (t := .int) (t' := .int) (by decide) (by decide)))
        have f219 := f203.other W210 (Ne.symm ne_a1_b2)
        have f220 := f204.other W210 (Ne.symm ne_a1_b26)
        have f221 := f205.other W210 (Ne.symm ne_a1_b52)
        have f222 := f206.other W210 (Ne.symm ne_a1_b80)
        have K223 := Keep.wr K207 W210 (Or.inl (List.mem_of_getElem? (i := 0) rfl))
        have Z224 := Nat.le_trans Z208 (Keep.of_wr W210).1
        have N225 := Fr.snoc X210 N209 g_a
        refine own_st (F' := T210.setTop (mkF m 68 #[.val (.ref a1), .val (.int p1), .val (.int (2 : Int32))] [])) st210 ?_
        refine own_fin X210 none (fun _ => rfl) Bd.notSynchronized (by decide) (by decide) (fun fs hr => X210.returnOut hx Bd.returns (hb hby d1_68) hr) ?_
        rw [e210]
        have hD : oDep p1 = 2 := by
          unfold oDep; repeat' split
          all_goals omega
        unfold Q1; rw [hD]
        exact ⟨rfl, N225, K223, b2, b26, b52, b80, ⟨sz_b2, sz_b26, sz_b52, sz_b80⟩, ⟨ne_a1_b2, ne_a1_b26, ne_a1_b52, ne_a1_b80, ne_b2_b26, ne_b2_b52, ne_b2_b80, ne_b26_b52, ne_b26_b80, ne_b52_b80⟩, ⟨f211, f212, f213, f214, f215, f216, f217, f218, (OArr.zero f219 rfl), (OArr.zero f220 rfl), (OArr.zero f221 rfl), (OArr.zero f222 rfl)⟩⟩
    · -- pc 49: not 2 < p1.toInt
      refine own_st (F' := T110.setTop (mkF m 58 #[.val (.ref a1), .val (.int p1), .val (.int (1 : Int32))] [])) (fun t_ kk => XS.ifYes X110.here hx rfl (pc0 := 49) (pc' := 58) rfl (hb hby d1_49) rfl ((if0 _ _).trans (flt (fun z => hc127 ((own_lev1 p1).mp z))).2.1) (by decide) (by decide) kk) ?_
      refine own_st (F' := T110.setTop (mkF m 59 #[.val (.ref a1), .val (.int p1), .val (.int (1 : Int32))] [(.ref a1)])) (fun t_ kk => XS.aloadN X110.here hx rfl (hb hby d1_58) rfl rfl kk) ?_
      refine own_st (F' := T110.setTop (mkF m 60 #[.val (.ref a1), .val (.int p1), .val (.int (1 : Int32))] [(.int (1 : Int32)), (.ref a1)])) (fun t_ kk => XS.iloadN X110.here hx rfl (hb hby d1_59) rfl kk) ?_
      obtain ⟨T226, h226, X226, e226, W226, st226⟩ := putF X110 hx hZ hown (host := "") (Or.inl (hw _ (List.mem_of_getElem? (i := 21) rfl))) Via.refl e110 f112 f111 (Or.inr ⟨(hw _ (List.mem_of_getElem? (i := 22) rfl)), rfl, hnm⟩) (hw _ (List.mem_of_getElem? (i := 2) rfl)) (ty := .int) (by decide) rfl rfl (g := (mkF m 60 #[.val (.ref a1), .val (.int p1), .val (.int (1 : Int32))] [(.int (1 : Int32)), (.ref a1)])) rfl rfl (hb hby d1_60)
      have f227 := f111.wr W226
      have f228 := f112.same W226
      have f229 := f113.other W226 (Or.inr (slot_ne (Or.inl (hw _ (List.mem_of_getElem? (i := 12) rfl))) (Or.inr (hw _ (List.mem_of_getElem? (i := 22) rfl))) (by decide) (t := (.array .int)) (t' := .int) (by decide) (by decide)))
      have f230 := f114.other W226 (Or.inr (slot_ne (Or.inl (hw _ (List.mem_of_getElem? (i := 14) rfl))) (Or.inr (hw _ (List.mem_of_getElem? (i := 22) rfl))) (by decide) (t := (.array .int)) (t' := .int) (by decide) (by decide)))
      have f231 := f115.other W226 (Or.inr (slot_ne (Or.inl (hw _ (List.mem_of_getElem? (i := 16) rfl))) (Or.inr (hw _ (List.mem_of_getElem? (i := 22) rfl))) (by decide) (t := (.array .int)) (t' := .int) (by decide) (by decide)))
      have f232 := f116.other W226 (Or.inr (slot_ne (Or.inl (hw _ (List.mem_of_getElem? (i := 18) rfl))) (Or.inr (hw _ (List.mem_of_getElem? (i := 22) rfl))) (by decide) (t := (.array .int)) (t' := .int) (by decide) (by decide)))
      have f233 := f117.other W226 (Or.inr (slot_ne (Or.inl (hw _ (List.mem_of_getElem? (i := 24) rfl))) (Or.inr (hw _ (List.mem_of_getElem? (i := 22) rfl))) (by decide) (t := .int) (t' := .int) (by decide) (by decide)))
      have f234 := f118.other W226 (Or.inr (slot_ne (Or.inl (hw _ (List.mem_of_getElem? (i := 20) rfl))) (Or.inr (hw _ (List.mem_of_getElem? (i := 22) rfl))) (by decide) (t := .int) (t' := .int) (by decide) (by decide)))
      have f235 := f119.other W226 (Ne.symm ne_a1_b2)
      have f236 := f120.other W226 (Ne.symm ne_a1_b26)
      have f237 := f121.other W226 (Ne.symm ne_a1_b52)
      have f238 := f122.other W226 (Ne.symm ne_a1_b80)
      have K239 := Keep.wr K123 W226 (Or.inl (List.mem_of_getElem? (i := 0) rfl))
      have Z240 := Nat.le_trans Z124 (Keep.of_wr W226).1
      have N241 := Fr.snoc X226 N125 g_a
      refine own_st (F' := T226.setTop (mkF m 63 #[.val (.ref a1), .val (.int p1), .val (.int (1 : Int32))] [])) st226 ?_
      refine own_st (F' := T226.setTop (mkF m 64 #[.val (.ref a1), .val (.int p1), .val (.int (1 : Int32))] [(.ref a1)])) (fun t_ kk => XS.aloadN X226.here hx rfl (hb hby d1_63) rfl rfl kk) ?_
      refine own_st (F' := T226.setTop (mkF m 65 #[.val (.ref a1), .val (.int p1), .val (.int (1 : Int32))] [(.int (2 : Int32)), (.ref a1)])) (fun t_ kk => XS.iconst X226.here hx rfl (hb hby d1_64) kk) ?_
      obtain ⟨T242, h242, X242, e242, W242, st242⟩ := putF X226 hx hZ hown (host := "") (Or.inl (hw _ (List.mem_of_getElem? (i := 23) rfl))) Via.refl e226 f233 f227 (Or.inl (hw _ (List.mem_of_getElem? (i := 24) rfl))) (hw _ (List.mem_of_getElem? (i := 2) rfl)) (ty := .int) (by decide) rfl rfl (g := (mkF m 65 #[.val (.ref a1), .val (.int p1), .val (.int (1 : Int32))] [(.int (2 : Int32)), (.ref a1)])) rfl rfl (hb hby d1_65)
      have f243 := f227.wr W242
      have f244 := f228.other W242 (Or.inr (slot_ne (Or.inr (hw _ (List.mem_of_getElem? (i := 22) rfl))) (Or.inl (hw _ (List.mem_of_getElem? (i := 24) rfl))) (by decide) (t := .int) (t' := .int) (by decide) (by decide)))
      have f245 := f229.other W242 (Or.inr (slot_ne (Or.inl (hw _ (List.mem_of_getElem? (i := 12) rfl))) (Or.inl (hw _ (List.mem_of_getElem? (i := 24) rfl))) (by decide) (t := (.array .int)) (t' := .int) (by decide) (by decide)))
      have f246 := f230.other W242 (Or.inr (slot_ne (Or.inl (hw _ (List.mem_of_getElem? (i := 14) rfl))) (Or.inl (hw _ (List.mem_of_getElem? (i := 24) rfl))) (by decide) (t := (.array .int)) (t' := .int) (by decide) (by decide)))
      have f247 := f231.other W242 (Or.inr (slot_ne (Or.inl (hw _ (List.mem_of_getElem? (i := 16) rfl))) (Or.inl (hw _ (List.mem_of_getElem? (i := 24) rfl))) (by decide) (t := (.array .int)) (t' := .int) (by decide) (by decide)))
      have f248 := f232.other W242 (Or.inr (slot_ne (Or.inl (hw _ (List.mem_of_getElem? (i := 18) rfl))) (Or.inl (hw _ (List.mem_of_getElem? (i := 24) rfl))) (by decide) (t := (.array .int)) (t' := .int) (by decide) (by decide)))
      have f249 := f233.same W242
      have f250 := f234.other W242 (Or.inr (slot_ne (Or.inl (hw _ (List.mem_of_getElem? (i := 20) rfl))) (Or.inl (hw _ (List.mem_of_getElem? (i := 24) rfl))) (by decide) (t := .int) (t' := .int) (by decide) (by decide)))
      have f251 := f235.other W242 (Ne.symm ne_a1_b2)
      have f252 := f236.other W242 (Ne.symm ne_a1_b26)
      have f253 := f237.other W242 (Ne.symm ne_a1_b52)
      have f254 := f238.other W242 (Ne.symm ne_a1_b80)
      have K255 := Keep.wr K239 W242 (Or.inl (List.mem_of_getElem? (i := 0) rfl))
      have Z256 := Nat.le_trans Z240 (Keep.of_wr W242).1
      have N257 := Fr.snoc X242 N241 g_a
      refine own_st (F' := T242.setTop (mkF m 68 #[.val (.ref a1), .val (.int p1), .val (.int (1 : Int32))] [])) st242 ?_
      refine own_fin X242 none (fun _ => rfl) Bd.notSynchronized (by decide) (by decide) (fun fs hr => X242.returnOut hx Bd.returns (hb hby d1_68) hr) ?_
      rw [e242]
      have hD : oDep p1 = 1 := by
        unfold oDep; repeat' split
        all_goals omega
      unfold Q1; rw [hD]
      exact ⟨rfl, N257, K255, b2, b26, b52, b80, ⟨sz_b2, sz_b26, sz_b52, sz_b80⟩, ⟨ne_a1_b2, ne_a1_b26, ne_a1_b52, ne_a1_b80, ne_b2_b26, ne_b2_b52, ne_b2_b80, ne_b26_b52, ne_b26_b80, ne_b52_b80⟩, ⟨f243, f244, f245, f246, f247, f248, f249, f250, (OArr.zero f251 rfl), (OArr.zero f252 rfl), (OArr.zero f253 rfl), (OArr.zero f254 rfl)⟩⟩
  · -- pc 49: not 1 < p1.toInt
    refine own_st (F' := T110.setTop (mkF m 58 #[.val (.ref a1), .val (.int p1), .val (.int (0 : Int32))] [])) (fun t_ kk => XS.ifYes X110.here hx rfl (pc0 := 49) (pc' := 58) rfl (hb hby d1_49) rfl ((if0 _ _).trans (flt (fun z => hc126 ((own_lev0 p1).mp z))).2.1) (by decide) (by decide) kk) ?_
    refine own_st (F' := T110.setTop (mkF m 59 #[.val (.ref a1), .val (.int p1), .val (.int (0 : Int32))] [(.ref a1)])) (fun t_ kk => XS.aloadN X110.here hx rfl (hb hby d1_58) rfl rfl kk) ?_
    refine own_st (F' := T110.setTop (mkF m 60 #[.val (.ref a1), .val (.int p1), .val (.int (0 : Int32))] [(.int (0 : Int32)), (.ref a1)])) (fun t_ kk => XS.iloadN X110.here hx rfl (hb hby d1_59) rfl kk) ?_
    obtain ⟨T258, h258, X258, e258, W258, st258⟩ := putF X110 hx hZ hown (host := "") (Or.inl (hw _ (List.mem_of_getElem? (i := 21) rfl))) Via.refl e110 f112 f111 (Or.inr ⟨(hw _ (List.mem_of_getElem? (i := 22) rfl)), rfl, hnm⟩) (hw _ (List.mem_of_getElem? (i := 2) rfl)) (ty := .int) (by decide) rfl rfl (g := (mkF m 60 #[.val (.ref a1), .val (.int p1), .val (.int (0 : Int32))] [(.int (0 : Int32)), (.ref a1)])) rfl rfl (hb hby d1_60)
    have f259 := f111.wr W258
    have f260 := f112.same W258
    have f261 := f113.other W258 (Or.inr (slot_ne (Or.inl (hw _ (List.mem_of_getElem? (i := 12) rfl))) (Or.inr (hw _ (List.mem_of_getElem? (i := 22) rfl))) (by decide) (t := (.array .int)) (t' := .int) (by decide) (by decide)))
    have f262 := f114.other W258 (Or.inr (slot_ne (Or.inl (hw _ (List.mem_of_getElem? (i := 14) rfl))) (Or.inr (hw _ (List.mem_of_getElem? (i := 22) rfl))) (by decide) (t := (.array .int)) (t' := .int) (by decide) (by decide)))
    have f263 := f115.other W258 (Or.inr (slot_ne (Or.inl (hw _ (List.mem_of_getElem? (i := 16) rfl))) (Or.inr (hw _ (List.mem_of_getElem? (i := 22) rfl))) (by decide) (t := (.array .int)) (t' := .int) (by decide) (by decide)))
    have f264 := f116.other W258 (Or.inr (slot_ne (Or.inl (hw _ (List.mem_of_getElem? (i := 18) rfl))) (Or.inr (hw _ (List.mem_of_getElem? (i := 22) rfl))) (by decide) (t := (.array .int)) (t' := .int) (by decide) (by decide)))
    have f265 := f117.other W258 (Or.inr (slot_ne (Or.inl (hw _ (List.mem_of_getElem? (i := 24) rfl))) (Or.inr (hw _ (List.mem_of_getElem? (i := 22) rfl))) (by decide) (t := .int) (t' := .int) (by decide) (by decide)))
    have f266 := f118.other W258 (Or.inr (slot_ne (Or.inl (hw _ (List.mem_of_getElem? (i := 20) rfl))) (Or.inr (hw _ (List.mem_of_getElem? (i := 22) rfl))) (by decide) (t := .int) (t' := .int) (by decide) (by decide)))
    have f267 := f119.other W258 (Ne.symm ne_a1_b2)
    have f268 := f120.other W258 (Ne.symm ne_a1_b26)
    have f269 := f121.other W258 (Ne.symm ne_a1_b52)
    have f270 := f122.other W258 (Ne.symm ne_a1_b80)
    have K271 := Keep.wr K123 W258 (Or.inl (List.mem_of_getElem? (i := 0) rfl))
    have Z272 := Nat.le_trans Z124 (Keep.of_wr W258).1
    have N273 := Fr.snoc X258 N125 g_a
    refine own_st (F' := T258.setTop (mkF m 63 #[.val (.ref a1), .val (.int p1), .val (.int (0 : Int32))] [])) st258 ?_
    refine own_st (F' := T258.setTop (mkF m 64 #[.val (.ref a1), .val (.int p1), .val (.int (0 : Int32))] [(.ref a1)])) (fun t_ kk => XS.aloadN X258.here hx rfl (hb hby d1_63) rfl rfl kk) ?_
    refine own_st (F' := T258.setTop (mkF m 65 #[.val (.ref a1), .val (.int p1), .val (.int (0 : Int32))] [(.int (2 : Int32)), (.ref a1)])) (fun t_ kk => XS.iconst X258.here hx rfl (hb hby d1_64) kk) ?_
    obtain ⟨T274, h274, X274, e274, W274, st274⟩ := putF X258 hx hZ hown (host := "") (Or.inl (hw _ (List.mem_of_getElem? (i := 23) rfl))) Via.refl e258 f265 f259 (Or.inl (hw _ (List.mem_of_getElem? (i := 24) rfl))) (hw _ (List.mem_of_getElem? (i := 2) rfl)) (ty := .int) (by decide) rfl rfl (g := (mkF m 65 #[.val (.ref a1), .val (.int p1), .val (.int (0 : Int32))] [(.int (2 : Int32)), (.ref a1)])) rfl rfl (hb hby d1_65)
    have f275 := f259.wr W274
    have f276 := f260.other W274 (Or.inr (slot_ne (Or.inr (hw _ (List.mem_of_getElem? (i := 22) rfl))) (Or.inl (hw _ (List.mem_of_getElem? (i := 24) rfl))) (by decide) (t := .int) (t' := .int) (by decide) (by decide)))
    have f277 := f261.other W274 (Or.inr (slot_ne (Or.inl (hw _ (List.mem_of_getElem? (i := 12) rfl))) (Or.inl (hw _ (List.mem_of_getElem? (i := 24) rfl))) (by decide) (t := (.array .int)) (t' := .int) (by decide) (by decide)))
    have f278 := f262.other W274 (Or.inr (slot_ne (Or.inl (hw _ (List.mem_of_getElem? (i := 14) rfl))) (Or.inl (hw _ (List.mem_of_getElem? (i := 24) rfl))) (by decide) (t := (.array .int)) (t' := .int) (by decide) (by decide)))
    have f279 := f263.other W274 (Or.inr (slot_ne (Or.inl (hw _ (List.mem_of_getElem? (i := 16) rfl))) (Or.inl (hw _ (List.mem_of_getElem? (i := 24) rfl))) (by decide) (t := (.array .int)) (t' := .int) (by decide) (by decide)))
    have f280 := f264.other W274 (Or.inr (slot_ne (Or.inl (hw _ (List.mem_of_getElem? (i := 18) rfl))) (Or.inl (hw _ (List.mem_of_getElem? (i := 24) rfl))) (by decide) (t := (.array .int)) (t' := .int) (by decide) (by decide)))
    have f281 := f265.same W274
    have f282 := f266.other W274 (Or.inr (slot_ne (Or.inl (hw _ (List.mem_of_getElem? (i := 20) rfl))) (Or.inl (hw _ (List.mem_of_getElem? (i := 24) rfl))) (by decide) (t := .int) (t' := .int) (by decide) (by decide)))
    have f283 := f267.other W274 (Ne.symm ne_a1_b2)
    have f284 := f268.other W274 (Ne.symm ne_a1_b26)
    have f285 := f269.other W274 (Ne.symm ne_a1_b52)
    have f286 := f270.other W274 (Ne.symm ne_a1_b80)
    have K287 := Keep.wr K271 W274 (Or.inl (List.mem_of_getElem? (i := 0) rfl))
    have Z288 := Nat.le_trans Z272 (Keep.of_wr W274).1
    have N289 := Fr.snoc X274 N273 g_a
    refine own_st (F' := T274.setTop (mkF m 68 #[.val (.ref a1), .val (.int p1), .val (.int (0 : Int32))] [])) st274 ?_
    refine own_fin X274 none (fun _ => rfl) Bd.notSynchronized (by decide) (by decide) (fun fs hr => X274.returnOut hx Bd.returns (hb hby d1_68) hr) ?_
    rw [e274]
    have hD : oDep p1 = 0 := by
      unfold oDep; repeat' split
      all_goals omega
    unfold Q1; rw [hD]
    exact ⟨rfl, N289, K287, b2, b26, b52, b80, ⟨sz_b2, sz_b26, sz_b52, sz_b80⟩, ⟨ne_a1_b2, ne_a1_b26, ne_a1_b52, ne_a1_b80, ne_b2_b26, ne_b2_b52, ne_b2_b80, ne_b26_b52, ne_b26_b80, ne_b52_b80⟩, ⟨f275, f276, f277, f278, f279, f280, f281, f282, (OArr.zero f283 rfl), (OArr.zero f284 rfl), (OArr.zero f285 rfl), (OArr.zero f286 rfl)⟩⟩
def Q0 (p1 p2 p3 p4 p5 : Int32) (h0 : Heap) (n0 : Nat) (v : Option Value) (h : Heap) (L : List Loc) : Prop := v = some (.int 1) ∧ Fr n0 L
theorem ef_0 (m : MethodId) (x0 : Int32) (x1 : Int32) (x2 : Int32) (x3 : Int32) (x4 : Int32) : entryFrame m #[(.int x0), (.int x1), (.int x2), (.int x3), (.int x4)] maxLocals = mkF m 0 #[.val (.int x0), .val (.int x1), .val (.int x2), .val (.int x3), .val (.int x4), .unset, .unset, .unset, .unset, .unset, .unset, .unset, .unset, .unset, .unset, .unset, .unset] [] := by first | (simp [entryFrame, mkF, argsToLocals, Value.category, maxLocals]; done) | rfl
theorem pn_0 : plainName "com/example/slackline/slackline/planning/FileOrderSetsClearPinLaw" = true := by first | (simp [plainName, overriddenIn]; done) | decide +kernel
set_option maxRecDepth 65536 in
set_option maxHeartbeats 40000000 in
theorem rm0 (l : Launch) (Z : State) (a0 : Array Value) (hw : ∀ d ∈ tables_1, d.before a0 Z = true) (ws : List Jvm.Cond) (p1 p2 p3 p4 p5 : Int32) (h0 : Heap) (n0 : Nat) (Z0 : n0 ≤ h0.size)  :
    MetFree l x (head1 (Jvm.Cond.code x code maxLocals ret :: ws) room_1) (fun a U => a = #[(.int p1), (.int p2), (.int p3), (.int p4), (.int p5)] ∧ Z.Warmed39 U.vm ∧ U.heap = h0) (fun _ _ _ _ _ => True) (fun _ U o U' => ∃ v L, o = .returned v ∧ Q0 p1 p2 p3 p4 p5 h0 n0 v U'.heap L ∧ FrameEnd U o U' L room_1.cells room_1.slots) := by
  refine MetFree.of_bodySF (plainFor_of_name pn_0) hisR ?_
  intro p e s m args below meth c s₁ Bd hml0 hP hK
  obtain ⟨rfl, hZ, hh⟩ := hP
  have hx := Bd.exec
  have hby := Bd.bytes
  have hml : c.maxLocals = 17 := hml0
  have hown : s.vm.findClass "com/example/slackline/slackline/planning/FileOrderSetsClearPinLaw" = some m.cls := findClass_of_methodNamed Bd.named
  have hnm := (name_of_methodNamed Bd.named Bd.method).1
  have X0 : Stand p l e room_1 s m #[(.int p1), (.int p2), (.int p3), (.int p4), (.int p5)] below meth c s₁ [] 0 0 := Stand.of_body Bd
  have e0 : s₁.heap = h0 := by rw [← hh, Bd.state]; rfl
  have N0 := Fr.nil n0
  suffices hgoal : OWp p e below s room_1.cells room_1.slots (Q0 p1 p2 p3 p4 p5 h0 n0) (s₁.setTop (mkF m 0 #[.val (.int p1), .val (.int p2), .val (.int p3), .val (.int p4), .val (.int p5), .unset, .unset, .unset, .unset, .unset, .unset, .unset, .unset, .unset, .unset, .unset, .unset] [])) by
    rw [← ef_0] at hgoal; exact hgoal
  have hpl := own_pl p1
  have hd4 := oDep_le ((1 : Int32) + (p1 &&& (15 : Int32)))
  have hnz : ((1 : Int32) + (p1 &&& (15 : Int32))) ≠ 0 := fun q => by have := hpl.1; rw [q] at this; exact absurd this (by decide)
  refine own_st (F' := s₁.setTop (mkF m 1 #[.val (.int p1), .val (.int p2), .val (.int p3), .val (.int p4), .val (.int p5), .unset, .unset, .unset, .unset, .unset, .unset, .unset, .unset, .unset, .unset, .unset, .unset] [(.int (1 : Int32))])) (fun t_ kk => XS.iconst X0.here hx rfl (hb hby at_0) kk) ?_
  refine own_st (F' := s₁.setTop (mkF m 2 #[.val (.int p1), .val (.int p2), .val (.int p3), .val (.int p4), .val (.int p5), .unset, .unset, .unset, .unset, .unset, .unset, .unset, .unset, .unset, .unset, .unset, .unset] [(.int p1), (.int (1 : Int32))])) (fun t_ kk => XS.iloadN X0.here hx rfl (hb hby at_1) rfl kk) ?_
  refine own_st (F' := s₁.setTop (mkF m 4 #[.val (.int p1), .val (.int p2), .val (.int p3), .val (.int p4), .val (.int p5), .unset, .unset, .unset, .unset, .unset, .unset, .unset, .unset, .unset, .unset, .unset, .unset] [(.int (15 : Int32)), (.int p1), (.int (1 : Int32))])) (fun t_ kk => XS.bipush X0.here hx rfl (hb hby at_2) kk) ?_
  refine own_st (F' := s₁.setTop (mkF m 5 #[.val (.int p1), .val (.int p2), .val (.int p3), .val (.int p4), .val (.int p5), .unset, .unset, .unset, .unset, .unset, .unset, .unset, .unset, .unset, .unset, .unset, .unset] [(.int (p1 &&& (15 : Int32))), (.int (1 : Int32))])) (fun t_ kk => XS.iand X0.here hx rfl (hb hby at_4) rfl kk) ?_
  refine own_st (F' := s₁.setTop (mkF m 6 #[.val (.int p1), .val (.int p2), .val (.int p3), .val (.int p4), .val (.int p5), .unset, .unset, .unset, .unset, .unset, .unset, .unset, .unset, .unset, .unset, .unset, .unset] [(.int ((1 : Int32) + (p1 &&& (15 : Int32))))])) (fun t_ kk => XS.iadd X0.here hx rfl (hb hby at_5) rfl kk) ?_
  refine own_st (F' := s₁.setTop (mkF m 8 #[.val (.int p1), .val (.int p2), .val (.int p3), .val (.int p4), .val (.int p5), .val (.int ((1 : Int32) + (p1 &&& (15 : Int32)))), .unset, .unset, .unset, .unset, .unset, .unset, .unset, .unset, .unset, .unset, .unset] [])) (fun t_ kk => XS.istore X0.here hx rfl (hb hby at_6) rfl (l' := #[.val (.int p1), .val (.int p2), .val (.int p3), .val (.int p4), .val (.int p5), .val (.int ((1 : Int32) + (p1 &&& (15 : Int32)))), .unset, .unset, .unset, .unset, .unset, .unset, .unset, .unset, .unset, .unset, .unset]) rfl kk) ?_
  refine own_st (F' := s₁.setTop (mkF m 9 #[.val (.int p1), .val (.int p2), .val (.int p3), .val (.int p4), .val (.int p5), .val (.int ((1 : Int32) + (p1 &&& (15 : Int32)))), .unset, .unset, .unset, .unset, .unset, .unset, .unset, .unset, .unset, .unset, .unset] [(.int p2)])) (fun t_ kk => XS.iloadN X0.here hx rfl (hb hby at_8) rfl kk) ?_
  refine own_st (F' := s₁.setTop (mkF m 11 #[.val (.int p1), .val (.int p2), .val (.int p3), .val (.int p4), .val (.int p5), .val (.int ((1 : Int32) + (p1 &&& (15 : Int32)))), .unset, .unset, .unset, .unset, .unset, .unset, .unset, .unset, .unset, .unset, .unset] [(.int (2147483647 : Int32)), (.int p2)])) (X0.ldcInt hx hown (mvT hZ (hw _ (List.mem_of_getElem? (i := 0) rfl))) (g := (mkF m 9 #[.val (.int p1), .val (.int p2), .val (.int p3), .val (.int p4), .val (.int p5), .val (.int ((1 : Int32) + (p1 &&& (15 : Int32)))), .unset, .unset, .unset, .unset, .unset, .unset, .unset, .unset, .unset, .unset, .unset] [(.int p2)])) rfl (hb hby at_9)) ?_
  refine own_st (F' := s₁.setTop (mkF m 12 #[.val (.int p1), .val (.int p2), .val (.int p3), .val (.int p4), .val (.int p5), .val (.int ((1 : Int32) + (p1 &&& (15 : Int32)))), .unset, .unset, .unset, .unset, .unset, .unset, .unset, .unset, .unset, .unset, .unset] [(.int (p2 &&& (2147483647 : Int32)))])) (fun t_ kk => XS.iand X0.here hx rfl (hb hby at_11) rfl kk) ?_
  refine own_st (F' := s₁.setTop (mkF m 14 #[.val (.int p1), .val (.int p2), .val (.int p3), .val (.int p4), .val (.int p5), .val (.int ((1 : Int32) + (p1 &&& (15 : Int32)))), .unset, .unset, .unset, .unset, .unset, .unset, .unset, .unset, .unset, .unset, .unset] [(.int ((1 : Int32) + (p1 &&& (15 : Int32)))), (.int (p2 &&& (2147483647 : Int32)))])) (fun t_ kk => XS.iload X0.here hx rfl (hb hby at_12) rfl kk) ?_
  refine own_st (F' := s₁.setTop (mkF m 15 #[.val (.int p1), .val (.int p2), .val (.int p3), .val (.int p4), .val (.int p5), .val (.int ((1 : Int32) + (p1 &&& (15 : Int32)))), .unset, .unset, .unset, .unset, .unset, .unset, .unset, .unset, .unset, .unset, .unset] [(.int ((p2 &&& (2147483647 : Int32)) % ((1 : Int32) + (p1 &&& (15 : Int32)))))])) (fun t_ kk => own_irem X0.here hx rfl (hb hby at_14) rfl hnz kk) ?_
  refine own_st (F' := s₁.setTop (mkF m 17 #[.val (.int p1), .val (.int p2), .val (.int p3), .val (.int p4), .val (.int p5), .val (.int ((1 : Int32) + (p1 &&& (15 : Int32)))), .val (.int ((p2 &&& (2147483647 : Int32)) % ((1 : Int32) + (p1 &&& (15 : Int32))))), .unset, .unset, .unset, .unset, .unset, .unset, .unset, .unset, .unset, .unset] [])) (fun t_ kk => XS.istore X0.here hx rfl (hb hby at_15) rfl (l' := #[.val (.int p1), .val (.int p2), .val (.int p3), .val (.int p4), .val (.int p5), .val (.int ((1 : Int32) + (p1 &&& (15 : Int32)))), .val (.int ((p2 &&& (2147483647 : Int32)) % ((1 : Int32) + (p1 &&& (15 : Int32))))), .unset, .unset, .unset, .unset, .unset, .unset, .unset, .unset, .unset, .unset]) rfl kk) ?_
  refine own_st (F' := s₁.setTop (mkF m 18 #[.val (.int p1), .val (.int p2), .val (.int p3), .val (.int p4), .val (.int p5), .val (.int ((1 : Int32) + (p1 &&& (15 : Int32)))), .val (.int ((p2 &&& (2147483647 : Int32)) % ((1 : Int32) + (p1 &&& (15 : Int32))))), .unset, .unset, .unset, .unset, .unset, .unset, .unset, .unset, .unset, .unset] [(.int p3)])) (fun t_ kk => XS.iloadN X0.here hx rfl (hb hby at_17) rfl kk) ?_
  refine own_st (F' := s₁.setTop (mkF m 20 #[.val (.int p1), .val (.int p2), .val (.int p3), .val (.int p4), .val (.int p5), .val (.int ((1 : Int32) + (p1 &&& (15 : Int32)))), .val (.int ((p2 &&& (2147483647 : Int32)) % ((1 : Int32) + (p1 &&& (15 : Int32))))), .unset, .unset, .unset, .unset, .unset, .unset, .unset, .unset, .unset, .unset] [(.int (2147483647 : Int32)), (.int p3)])) (X0.ldcInt hx hown (mvT hZ (hw _ (List.mem_of_getElem? (i := 0) rfl))) (g := (mkF m 18 #[.val (.int p1), .val (.int p2), .val (.int p3), .val (.int p4), .val (.int p5), .val (.int ((1 : Int32) + (p1 &&& (15 : Int32)))), .val (.int ((p2 &&& (2147483647 : Int32)) % ((1 : Int32) + (p1 &&& (15 : Int32))))), .unset, .unset, .unset, .unset, .unset, .unset, .unset, .unset, .unset, .unset] [(.int p3)])) rfl (hb hby at_18)) ?_
  refine own_st (F' := s₁.setTop (mkF m 21 #[.val (.int p1), .val (.int p2), .val (.int p3), .val (.int p4), .val (.int p5), .val (.int ((1 : Int32) + (p1 &&& (15 : Int32)))), .val (.int ((p2 &&& (2147483647 : Int32)) % ((1 : Int32) + (p1 &&& (15 : Int32))))), .unset, .unset, .unset, .unset, .unset, .unset, .unset, .unset, .unset, .unset] [(.int (p3 &&& (2147483647 : Int32)))])) (fun t_ kk => XS.iand X0.here hx rfl (hb hby at_20) rfl kk) ?_
  refine own_st (F' := s₁.setTop (mkF m 23 #[.val (.int p1), .val (.int p2), .val (.int p3), .val (.int p4), .val (.int p5), .val (.int ((1 : Int32) + (p1 &&& (15 : Int32)))), .val (.int ((p2 &&& (2147483647 : Int32)) % ((1 : Int32) + (p1 &&& (15 : Int32))))), .unset, .unset, .unset, .unset, .unset, .unset, .unset, .unset, .unset, .unset] [(.int ((1 : Int32) + (p1 &&& (15 : Int32)))), (.int (p3 &&& (2147483647 : Int32)))])) (fun t_ kk => XS.iload X0.here hx rfl (hb hby at_21) rfl kk) ?_
  refine own_st (F' := s₁.setTop (mkF m 24 #[.val (.int p1), .val (.int p2), .val (.int p3), .val (.int p4), .val (.int p5), .val (.int ((1 : Int32) + (p1 &&& (15 : Int32)))), .val (.int ((p2 &&& (2147483647 : Int32)) % ((1 : Int32) + (p1 &&& (15 : Int32))))), .unset, .unset, .unset, .unset, .unset, .unset, .unset, .unset, .unset, .unset] [(.int ((p3 &&& (2147483647 : Int32)) % ((1 : Int32) + (p1 &&& (15 : Int32)))))])) (fun t_ kk => own_irem X0.here hx rfl (hb hby at_23) rfl hnz kk) ?_
  refine own_st (F' := s₁.setTop (mkF m 26 #[.val (.int p1), .val (.int p2), .val (.int p3), .val (.int p4), .val (.int p5), .val (.int ((1 : Int32) + (p1 &&& (15 : Int32)))), .val (.int ((p2 &&& (2147483647 : Int32)) % ((1 : Int32) + (p1 &&& (15 : Int32))))), .val (.int ((p3 &&& (2147483647 : Int32)) % ((1 : Int32) + (p1 &&& (15 : Int32))))), .unset, .unset, .unset, .unset, .unset, .unset, .unset, .unset, .unset] [])) (fun t_ kk => XS.istore X0.here hx rfl (hb hby at_24) rfl (l' := #[.val (.int p1), .val (.int p2), .val (.int p3), .val (.int p4), .val (.int p5), .val (.int ((1 : Int32) + (p1 &&& (15 : Int32)))), .val (.int ((p2 &&& (2147483647 : Int32)) % ((1 : Int32) + (p1 &&& (15 : Int32))))), .val (.int ((p3 &&& (2147483647 : Int32)) % ((1 : Int32) + (p1 &&& (15 : Int32))))), .unset, .unset, .unset, .unset, .unset, .unset, .unset, .unset, .unset]) rfl kk) ?_
  refine own_st (F' := s₁.setTop (mkF m 27 #[.val (.int p1), .val (.int p2), .val (.int p3), .val (.int p4), .val (.int p5), .val (.int ((1 : Int32) + (p1 &&& (15 : Int32)))), .val (.int ((p2 &&& (2147483647 : Int32)) % ((1 : Int32) + (p1 &&& (15 : Int32))))), .val (.int ((p3 &&& (2147483647 : Int32)) % ((1 : Int32) + (p1 &&& (15 : Int32))))), .unset, .unset, .unset, .unset, .unset, .unset, .unset, .unset, .unset] [(.int p4)])) (fun t_ kk => XS.iloadN X0.here hx rfl (hb hby at_26) rfl kk) ?_
  refine own_st (F' := s₁.setTop (mkF m 29 #[.val (.int p1), .val (.int p2), .val (.int p3), .val (.int p4), .val (.int p5), .val (.int ((1 : Int32) + (p1 &&& (15 : Int32)))), .val (.int ((p2 &&& (2147483647 : Int32)) % ((1 : Int32) + (p1 &&& (15 : Int32))))), .val (.int ((p3 &&& (2147483647 : Int32)) % ((1 : Int32) + (p1 &&& (15 : Int32))))), .unset, .unset, .unset, .unset, .unset, .unset, .unset, .unset, .unset] [(.int (2147483647 : Int32)), (.int p4)])) (X0.ldcInt hx hown (mvT hZ (hw _ (List.mem_of_getElem? (i := 0) rfl))) (g := (mkF m 27 #[.val (.int p1), .val (.int p2), .val (.int p3), .val (.int p4), .val (.int p5), .val (.int ((1 : Int32) + (p1 &&& (15 : Int32)))), .val (.int ((p2 &&& (2147483647 : Int32)) % ((1 : Int32) + (p1 &&& (15 : Int32))))), .val (.int ((p3 &&& (2147483647 : Int32)) % ((1 : Int32) + (p1 &&& (15 : Int32))))), .unset, .unset, .unset, .unset, .unset, .unset, .unset, .unset, .unset] [(.int p4)])) rfl (hb hby at_27)) ?_
  refine own_st (F' := s₁.setTop (mkF m 30 #[.val (.int p1), .val (.int p2), .val (.int p3), .val (.int p4), .val (.int p5), .val (.int ((1 : Int32) + (p1 &&& (15 : Int32)))), .val (.int ((p2 &&& (2147483647 : Int32)) % ((1 : Int32) + (p1 &&& (15 : Int32))))), .val (.int ((p3 &&& (2147483647 : Int32)) % ((1 : Int32) + (p1 &&& (15 : Int32))))), .unset, .unset, .unset, .unset, .unset, .unset, .unset, .unset, .unset] [(.int (p4 &&& (2147483647 : Int32)))])) (fun t_ kk => XS.iand X0.here hx rfl (hb hby at_29) rfl kk) ?_
  refine own_st (F' := s₁.setTop (mkF m 32 #[.val (.int p1), .val (.int p2), .val (.int p3), .val (.int p4), .val (.int p5), .val (.int ((1 : Int32) + (p1 &&& (15 : Int32)))), .val (.int ((p2 &&& (2147483647 : Int32)) % ((1 : Int32) + (p1 &&& (15 : Int32))))), .val (.int ((p3 &&& (2147483647 : Int32)) % ((1 : Int32) + (p1 &&& (15 : Int32))))), .unset, .unset, .unset, .unset, .unset, .unset, .unset, .unset, .unset] [(.int ((1 : Int32) + (p1 &&& (15 : Int32)))), (.int (p4 &&& (2147483647 : Int32)))])) (fun t_ kk => XS.iload X0.here hx rfl (hb hby at_30) rfl kk) ?_
  refine own_st (F' := s₁.setTop (mkF m 33 #[.val (.int p1), .val (.int p2), .val (.int p3), .val (.int p4), .val (.int p5), .val (.int ((1 : Int32) + (p1 &&& (15 : Int32)))), .val (.int ((p2 &&& (2147483647 : Int32)) % ((1 : Int32) + (p1 &&& (15 : Int32))))), .val (.int ((p3 &&& (2147483647 : Int32)) % ((1 : Int32) + (p1 &&& (15 : Int32))))), .unset, .unset, .unset, .unset, .unset, .unset, .unset, .unset, .unset] [(.int ((p4 &&& (2147483647 : Int32)) % ((1 : Int32) + (p1 &&& (15 : Int32)))))])) (fun t_ kk => own_irem X0.here hx rfl (hb hby at_32) rfl hnz kk) ?_
  refine own_st (F' := s₁.setTop (mkF m 35 #[.val (.int p1), .val (.int p2), .val (.int p3), .val (.int p4), .val (.int p5), .val (.int ((1 : Int32) + (p1 &&& (15 : Int32)))), .val (.int ((p2 &&& (2147483647 : Int32)) % ((1 : Int32) + (p1 &&& (15 : Int32))))), .val (.int ((p3 &&& (2147483647 : Int32)) % ((1 : Int32) + (p1 &&& (15 : Int32))))), .val (.int ((p4 &&& (2147483647 : Int32)) % ((1 : Int32) + (p1 &&& (15 : Int32))))), .unset, .unset, .unset, .unset, .unset, .unset, .unset, .unset] [])) (fun t_ kk => XS.istore X0.here hx rfl (hb hby at_33) rfl (l' := #[.val (.int p1), .val (.int p2), .val (.int p3), .val (.int p4), .val (.int p5), .val (.int ((1 : Int32) + (p1 &&& (15 : Int32)))), .val (.int ((p2 &&& (2147483647 : Int32)) % ((1 : Int32) + (p1 &&& (15 : Int32))))), .val (.int ((p3 &&& (2147483647 : Int32)) % ((1 : Int32) + (p1 &&& (15 : Int32))))), .val (.int ((p4 &&& (2147483647 : Int32)) % ((1 : Int32) + (p1 &&& (15 : Int32))))), .unset, .unset, .unset, .unset, .unset, .unset, .unset, .unset]) rfl kk) ?_
  refine own_st (F' := s₁.setTop (mkF m 37 #[.val (.int p1), .val (.int p2), .val (.int p3), .val (.int p4), .val (.int p5), .val (.int ((1 : Int32) + (p1 &&& (15 : Int32)))), .val (.int ((p2 &&& (2147483647 : Int32)) % ((1 : Int32) + (p1 &&& (15 : Int32))))), .val (.int ((p3 &&& (2147483647 : Int32)) % ((1 : Int32) + (p1 &&& (15 : Int32))))), .val (.int ((p4 &&& (2147483647 : Int32)) % ((1 : Int32) + (p1 &&& (15 : Int32))))), .unset, .unset, .unset, .unset, .unset, .unset, .unset, .unset] [(.int p5)])) (fun t_ kk => XS.iload X0.here hx rfl (hb hby at_35) rfl kk) ?_
  refine own_st (F' := s₁.setTop (mkF m 39 #[.val (.int p1), .val (.int p2), .val (.int p3), .val (.int p4), .val (.int p5), .val (.int ((1 : Int32) + (p1 &&& (15 : Int32)))), .val (.int ((p2 &&& (2147483647 : Int32)) % ((1 : Int32) + (p1 &&& (15 : Int32))))), .val (.int ((p3 &&& (2147483647 : Int32)) % ((1 : Int32) + (p1 &&& (15 : Int32))))), .val (.int ((p4 &&& (2147483647 : Int32)) % ((1 : Int32) + (p1 &&& (15 : Int32))))), .unset, .unset, .unset, .unset, .unset, .unset, .unset, .unset] [(.int (2147483647 : Int32)), (.int p5)])) (X0.ldcInt hx hown (mvT hZ (hw _ (List.mem_of_getElem? (i := 0) rfl))) (g := (mkF m 37 #[.val (.int p1), .val (.int p2), .val (.int p3), .val (.int p4), .val (.int p5), .val (.int ((1 : Int32) + (p1 &&& (15 : Int32)))), .val (.int ((p2 &&& (2147483647 : Int32)) % ((1 : Int32) + (p1 &&& (15 : Int32))))), .val (.int ((p3 &&& (2147483647 : Int32)) % ((1 : Int32) + (p1 &&& (15 : Int32))))), .val (.int ((p4 &&& (2147483647 : Int32)) % ((1 : Int32) + (p1 &&& (15 : Int32))))), .unset, .unset, .unset, .unset, .unset, .unset, .unset, .unset] [(.int p5)])) rfl (hb hby at_37)) ?_
  refine own_st (F' := s₁.setTop (mkF m 40 #[.val (.int p1), .val (.int p2), .val (.int p3), .val (.int p4), .val (.int p5), .val (.int ((1 : Int32) + (p1 &&& (15 : Int32)))), .val (.int ((p2 &&& (2147483647 : Int32)) % ((1 : Int32) + (p1 &&& (15 : Int32))))), .val (.int ((p3 &&& (2147483647 : Int32)) % ((1 : Int32) + (p1 &&& (15 : Int32))))), .val (.int ((p4 &&& (2147483647 : Int32)) % ((1 : Int32) + (p1 &&& (15 : Int32))))), .unset, .unset, .unset, .unset, .unset, .unset, .unset, .unset] [(.int (p5 &&& (2147483647 : Int32)))])) (fun t_ kk => XS.iand X0.here hx rfl (hb hby at_39) rfl kk) ?_
  refine own_st (F' := s₁.setTop (mkF m 42 #[.val (.int p1), .val (.int p2), .val (.int p3), .val (.int p4), .val (.int p5), .val (.int ((1 : Int32) + (p1 &&& (15 : Int32)))), .val (.int ((p2 &&& (2147483647 : Int32)) % ((1 : Int32) + (p1 &&& (15 : Int32))))), .val (.int ((p3 &&& (2147483647 : Int32)) % ((1 : Int32) + (p1 &&& (15 : Int32))))), .val (.int ((p4 &&& (2147483647 : Int32)) % ((1 : Int32) + (p1 &&& (15 : Int32))))), .unset, .unset, .unset, .unset, .unset, .unset, .unset, .unset] [(.int ((1 : Int32) + (p1 &&& (15 : Int32)))), (.int (p5 &&& (2147483647 : Int32)))])) (fun t_ kk => XS.iload X0.here hx rfl (hb hby at_40) rfl kk) ?_
  refine own_st (F' := s₁.setTop (mkF m 43 #[.val (.int p1), .val (.int p2), .val (.int p3), .val (.int p4), .val (.int p5), .val (.int ((1 : Int32) + (p1 &&& (15 : Int32)))), .val (.int ((p2 &&& (2147483647 : Int32)) % ((1 : Int32) + (p1 &&& (15 : Int32))))), .val (.int ((p3 &&& (2147483647 : Int32)) % ((1 : Int32) + (p1 &&& (15 : Int32))))), .val (.int ((p4 &&& (2147483647 : Int32)) % ((1 : Int32) + (p1 &&& (15 : Int32))))), .unset, .unset, .unset, .unset, .unset, .unset, .unset, .unset] [(.int ((p5 &&& (2147483647 : Int32)) % ((1 : Int32) + (p1 &&& (15 : Int32)))))])) (fun t_ kk => own_irem X0.here hx rfl (hb hby at_42) rfl hnz kk) ?_
  refine own_st (F' := s₁.setTop (mkF m 45 #[.val (.int p1), .val (.int p2), .val (.int p3), .val (.int p4), .val (.int p5), .val (.int ((1 : Int32) + (p1 &&& (15 : Int32)))), .val (.int ((p2 &&& (2147483647 : Int32)) % ((1 : Int32) + (p1 &&& (15 : Int32))))), .val (.int ((p3 &&& (2147483647 : Int32)) % ((1 : Int32) + (p1 &&& (15 : Int32))))), .val (.int ((p4 &&& (2147483647 : Int32)) % ((1 : Int32) + (p1 &&& (15 : Int32))))), .val (.int ((p5 &&& (2147483647 : Int32)) % ((1 : Int32) + (p1 &&& (15 : Int32))))), .unset, .unset, .unset, .unset, .unset, .unset, .unset] [])) (fun t_ kk => XS.istore X0.here hx rfl (hb hby at_43) rfl (l' := #[.val (.int p1), .val (.int p2), .val (.int p3), .val (.int p4), .val (.int p5), .val (.int ((1 : Int32) + (p1 &&& (15 : Int32)))), .val (.int ((p2 &&& (2147483647 : Int32)) % ((1 : Int32) + (p1 &&& (15 : Int32))))), .val (.int ((p3 &&& (2147483647 : Int32)) % ((1 : Int32) + (p1 &&& (15 : Int32))))), .val (.int ((p4 &&& (2147483647 : Int32)) % ((1 : Int32) + (p1 &&& (15 : Int32))))), .val (.int ((p5 &&& (2147483647 : Int32)) % ((1 : Int32) + (p1 &&& (15 : Int32))))), .unset, .unset, .unset, .unset, .unset, .unset, .unset]) rfl kk) ?_
  obtain ⟨T1, h1, X1, e1, E1, A1, D1, -, st1⟩ := newO X0 hx hZ hown (hw _ (List.mem_of_getElem? (i := 1) rfl)) (hw _ (List.mem_of_getElem? (i := 2) rfl)) (hw _ (List.mem_of_getElem? (i := 3) rfl)) e0 (g := (mkF m 45 #[.val (.int p1), .val (.int p2), .val (.int p3), .val (.int p4), .val (.int p5), .val (.int ((1 : Int32) + (p1 &&& (15 : Int32)))), .val (.int ((p2 &&& (2147483647 : Int32)) % ((1 : Int32) + (p1 &&& (15 : Int32))))), .val (.int ((p3 &&& (2147483647 : Int32)) % ((1 : Int32) + (p1 &&& (15 : Int32))))), .val (.int ((p4 &&& (2147483647 : Int32)) % ((1 : Int32) + (p1 &&& (15 : Int32))))), .val (.int ((p5 &&& (2147483647 : Int32)) % ((1 : Int32) + (p1 &&& (15 : Int32))))), .unset, .unset, .unset, .unset, .unset, .unset, .unset] [])) rfl (hb hby at_45) (by decide) (by decide)
  obtain ⟨b1, g1⟩ : ∃ z, z = h0.size := ⟨_, rfl⟩
  rw [← g1] at A1 D1 st1
  have g_b1 : n0 ≤ b1 := Nat.le_trans Z0 (Nat.le_of_eq g1.symm)
  have F1_lows : Fld Z h1 b1 "com/example/slackline/slackline/planning/FileOrderSets" "lows" "[I" .null := D1 (Or.inl (hw _ (List.mem_of_getElem? (i := 12) rfl))) (ty := (.array .int)) (by decide)
  have F1_highs : Fld Z h1 b1 "com/example/slackline/slackline/planning/FileOrderSets" "highs" "[I" .null := D1 (Or.inl (hw _ (List.mem_of_getElem? (i := 14) rfl))) (ty := (.array .int)) (by decide)
  have F1_table : Fld Z h1 b1 "com/example/slackline/slackline/planning/FileOrderSets" "table" "[I" .null := D1 (Or.inl (hw _ (List.mem_of_getElem? (i := 16) rfl))) (ty := (.array .int)) (by decide)
  have F1_stamps : Fld Z h1 b1 "com/example/slackline/slackline/planning/FileOrderSets" "stamps" "[I" .null := D1 (Or.inl (hw _ (List.mem_of_getElem? (i := 18) rfl))) (ty := (.array .int)) (by decide)
  have F1_stamp : Fld Z h1 b1 "com/example/slackline/slackline/planning/FileOrderSets" "stamp" "I" (.int (0 : Int32)) := D1 (Or.inl (hw _ (List.mem_of_getElem? (i := 20) rfl))) (ty := .int) (by decide)
  have F1_depth : Fld Z h1 b1 "com/example/slackline/slackline/planning/FileOrderSets" "depth" "I" (.int (0 : Int32)) := D1 (Or.inr (hw _ (List.mem_of_getElem? (i := 22) rfl))) (ty := .int) (by decide)
  have F1_count : Fld Z h1 b1 "com/example/slackline/slackline/planning/FileOrderSets" "count" "I" (.int (0 : Int32)) := D1 (Or.inl (hw _ (List.mem_of_getElem? (i := 24) rfl))) (ty := .int) (by decide)
  have Z2 := Nat.le_trans Z0 E1.1
  refine own_st (F' := T1.setTop (mkF m 48 #[.val (.int p1), .val (.int p2), .val (.int p3), .val (.int p4), .val (.int p5), .val (.int ((1 : Int32) + (p1 &&& (15 : Int32)))), .val (.int ((p2 &&& (2147483647 : Int32)) % ((1 : Int32) + (p1 &&& (15 : Int32))))), .val (.int ((p3 &&& (2147483647 : Int32)) % ((1 : Int32) + (p1 &&& (15 : Int32))))), .val (.int ((p4 &&& (2147483647 : Int32)) % ((1 : Int32) + (p1 &&& (15 : Int32))))), .val (.int ((p5 &&& (2147483647 : Int32)) % ((1 : Int32) + (p1 &&& (15 : Int32))))), .unset, .unset, .unset, .unset, .unset, .unset, .unset] [(.ref b1)])) st1 ?_
  refine own_st (F' := T1.setTop (mkF m 49 #[.val (.int p1), .val (.int p2), .val (.int p3), .val (.int p4), .val (.int p5), .val (.int ((1 : Int32) + (p1 &&& (15 : Int32)))), .val (.int ((p2 &&& (2147483647 : Int32)) % ((1 : Int32) + (p1 &&& (15 : Int32))))), .val (.int ((p3 &&& (2147483647 : Int32)) % ((1 : Int32) + (p1 &&& (15 : Int32))))), .val (.int ((p4 &&& (2147483647 : Int32)) % ((1 : Int32) + (p1 &&& (15 : Int32))))), .val (.int ((p5 &&& (2147483647 : Int32)) % ((1 : Int32) + (p1 &&& (15 : Int32))))), .unset, .unset, .unset, .unset, .unset, .unset, .unset] [(.ref b1), (.ref b1)])) (fun t_ kk => XS.dup X1.here hx rfl (hb hby at_48) rfl rfl kk) ?_
  refine own_st (F' := T1.setTop (mkF m 51 #[.val (.int p1), .val (.int p2), .val (.int p3), .val (.int p4), .val (.int p5), .val (.int ((1 : Int32) + (p1 &&& (15 : Int32)))), .val (.int ((p2 &&& (2147483647 : Int32)) % ((1 : Int32) + (p1 &&& (15 : Int32))))), .val (.int ((p3 &&& (2147483647 : Int32)) % ((1 : Int32) + (p1 &&& (15 : Int32))))), .val (.int ((p4 &&& (2147483647 : Int32)) % ((1 : Int32) + (p1 &&& (15 : Int32))))), .val (.int ((p5 &&& (2147483647 : Int32)) % ((1 : Int32) + (p1 &&& (15 : Int32))))), .unset, .unset, .unset, .unset, .unset, .unset, .unset] [(.int ((1 : Int32) + (p1 &&& (15 : Int32)))), (.ref b1), (.ref b1)])) (fun t_ kk => XS.iload X1.here hx rfl (hb hby at_49) rfl kk) ?_
  refine own_init X1 hx hZ (y := (⟨"com/example/slackline/slackline/planning/FileOrderSets", "<init>", "(I)V"⟩ : MethodName)) hown rfl (hw _ (List.mem_of_getElem? (i := 4) rfl)) (hw _ (List.mem_of_getElem? (i := 5) rfl)) (hw _ (List.mem_of_getElem? (i := 3) rfl)) (hw _ (List.mem_of_getElem? (i := 6) rfl)) (rm1 l Z a0 hw [] b1 ((1 : Int32) + (p1 &&& (15 : Int32))) h1 n0 Z2 A1 F1_depth F1_lows F1_highs F1_table F1_stamps F1_count F1_stamp g_b1 hpl.2) (by decide) (W := 1) (a := b1) (argsL := [(.int ((1 : Int32) + (p1 &&& (15 : Int32))))]) (rest := [(.ref b1)]) (by decide) (by decide) (by rw [hml]; rfl) (lenOf own_pd4 rfl) rfl rfl (Nat.le_of_eq rfl) (hb hby at_51) e1 (by decide) (by decide) ?_
  intro v3 T3 L3 hQ3 X3
  obtain ⟨rfl, N3q, K3, lb1, hb1, tb1, sb1, ⟨q1b1, q2b1, q3b1, q4b1⟩, disb1, I3⟩ := hQ3
  have N3 := Fr.app N0 N3q
  have geb1 : h0.size ≤ b1 := Nat.le_of_eq g1.symm
  have hgb1 : n0 ≤ b1 ∧ n0 ≤ lb1 ∧ n0 ≤ hb1 ∧ n0 ≤ tb1 ∧ n0 ≤ sb1 := ⟨g_b1, Nat.le_trans Z2 q1b1, Nat.le_trans Z2 q2b1, Nat.le_trans Z2 q3b1, Nat.le_trans Z2 q4b1⟩
  have bsb1 : h0.size ≤ h1.size := E1.1
  have gesb1 := own_ges geb1 (Nat.le_trans bsb1 q1b1) (Nat.le_trans bsb1 q2b1) (Nat.le_trans bsb1 q3b1) (Nat.le_trans bsb1 q4b1)
  have Z3 := Nat.le_trans Z2 K3.1
  obtain ⟨h3, e3⟩ : ∃ z, T3.heap = z := ⟨_, rfl⟩
  rw [e3] at K3 I3 Z3
  have ltsb1 := I3.lts
  show OWp p e below s _ _ _ (T3.setTop (mkF m 54 #[.val (.int p1), .val (.int p2), .val (.int p3), .val (.int p4), .val (.int p5), .val (.int ((1 : Int32) + (p1 &&& (15 : Int32)))), .val (.int ((p2 &&& (2147483647 : Int32)) % ((1 : Int32) + (p1 &&& (15 : Int32))))), .val (.int ((p3 &&& (2147483647 : Int32)) % ((1 : Int32) + (p1 &&& (15 : Int32))))), .val (.int ((p4 &&& (2147483647 : Int32)) % ((1 : Int32) + (p1 &&& (15 : Int32))))), .val (.int ((p5 &&& (2147483647 : Int32)) % ((1 : Int32) + (p1 &&& (15 : Int32))))), .unset, .unset, .unset, .unset, .unset, .unset, .unset] [(.ref b1)]))
  refine own_st (F' := T3.setTop (mkF m 56 #[.val (.int p1), .val (.int p2), .val (.int p3), .val (.int p4), .val (.int p5), .val (.int ((1 : Int32) + (p1 &&& (15 : Int32)))), .val (.int ((p2 &&& (2147483647 : Int32)) % ((1 : Int32) + (p1 &&& (15 : Int32))))), .val (.int ((p3 &&& (2147483647 : Int32)) % ((1 : Int32) + (p1 &&& (15 : Int32))))), .val (.int ((p4 &&& (2147483647 : Int32)) % ((1 : Int32) + (p1 &&& (15 : Int32))))), .val (.int ((p5 &&& (2147483647 : Int32)) % ((1 : Int32) + (p1 &&& (15 : Int32))))), .val (.ref b1), .unset, .unset, .unset, .unset, .unset, .unset] [])) (fun t_ kk => XS.astore X3.here hx rfl (hb hby at_54) rfl rfl (l' := #[.val (.int p1), .val (.int p2), .val (.int p3), .val (.int p4), .val (.int p5), .val (.int ((1 : Int32) + (p1 &&& (15 : Int32)))), .val (.int ((p2 &&& (2147483647 : Int32)) % ((1 : Int32) + (p1 &&& (15 : Int32))))), .val (.int ((p3 &&& (2147483647 : Int32)) % ((1 : Int32) + (p1 &&& (15 : Int32))))), .val (.int ((p4 &&& (2147483647 : Int32)) % ((1 : Int32) + (p1 &&& (15 : Int32))))), .val (.int ((p5 &&& (2147483647 : Int32)) % ((1 : Int32) + (p1 &&& (15 : Int32))))), .val (.ref b1), .unset, .unset, .unset, .unset, .unset, .unset]) rfl kk) ?_
  obtain ⟨T4, h4, X4, e4, E4, A4, D4, -, st4⟩ := newO X3 hx hZ hown (hw _ (List.mem_of_getElem? (i := 1) rfl)) (hw _ (List.mem_of_getElem? (i := 2) rfl)) (hw _ (List.mem_of_getElem? (i := 3) rfl)) e3 (g := (mkF m 56 #[.val (.int p1), .val (.int p2), .val (.int p3), .val (.int p4), .val (.int p5), .val (.int ((1 : Int32) + (p1 &&& (15 : Int32)))), .val (.int ((p2 &&& (2147483647 : Int32)) % ((1 : Int32) + (p1 &&& (15 : Int32))))), .val (.int ((p3 &&& (2147483647 : Int32)) % ((1 : Int32) + (p1 &&& (15 : Int32))))), .val (.int ((p4 &&& (2147483647 : Int32)) % ((1 : Int32) + (p1 &&& (15 : Int32))))), .val (.int ((p5 &&& (2147483647 : Int32)) % ((1 : Int32) + (p1 &&& (15 : Int32))))), .val (.ref b1), .unset, .unset, .unset, .unset, .unset, .unset] [])) rfl (hb hby at_56) (by decide) (by decide)
  obtain ⟨b4, g4⟩ : ∃ z, z = h3.size := ⟨_, rfl⟩
  rw [← g4] at A4 D4 st4
  have g_b4 : n0 ≤ b4 := Nat.le_trans Z3 (Nat.le_of_eq g4.symm)
  have F4_lows : Fld Z h4 b4 "com/example/slackline/slackline/planning/FileOrderSets" "lows" "[I" .null := D4 (Or.inl (hw _ (List.mem_of_getElem? (i := 12) rfl))) (ty := (.array .int)) (by decide)
  have F4_highs : Fld Z h4 b4 "com/example/slackline/slackline/planning/FileOrderSets" "highs" "[I" .null := D4 (Or.inl (hw _ (List.mem_of_getElem? (i := 14) rfl))) (ty := (.array .int)) (by decide)
  have F4_table : Fld Z h4 b4 "com/example/slackline/slackline/planning/FileOrderSets" "table" "[I" .null := D4 (Or.inl (hw _ (List.mem_of_getElem? (i := 16) rfl))) (ty := (.array .int)) (by decide)
  have F4_stamps : Fld Z h4 b4 "com/example/slackline/slackline/planning/FileOrderSets" "stamps" "[I" .null := D4 (Or.inl (hw _ (List.mem_of_getElem? (i := 18) rfl))) (ty := (.array .int)) (by decide)
  have F4_stamp : Fld Z h4 b4 "com/example/slackline/slackline/planning/FileOrderSets" "stamp" "I" (.int (0 : Int32)) := D4 (Or.inl (hw _ (List.mem_of_getElem? (i := 20) rfl))) (ty := .int) (by decide)
  have F4_depth : Fld Z h4 b4 "com/example/slackline/slackline/planning/FileOrderSets" "depth" "I" (.int (0 : Int32)) := D4 (Or.inr (hw _ (List.mem_of_getElem? (i := 22) rfl))) (ty := .int) (by decide)
  have F4_count : Fld Z h4 b4 "com/example/slackline/slackline/planning/FileOrderSets" "count" "I" (.int (0 : Int32)) := D4 (Or.inl (hw _ (List.mem_of_getElem? (i := 24) rfl))) (ty := .int) (by decide)
  have Z5 := Nat.le_trans Z3 E4.1
  refine own_st (F' := T4.setTop (mkF m 59 #[.val (.int p1), .val (.int p2), .val (.int p3), .val (.int p4), .val (.int p5), .val (.int ((1 : Int32) + (p1 &&& (15 : Int32)))), .val (.int ((p2 &&& (2147483647 : Int32)) % ((1 : Int32) + (p1 &&& (15 : Int32))))), .val (.int ((p3 &&& (2147483647 : Int32)) % ((1 : Int32) + (p1 &&& (15 : Int32))))), .val (.int ((p4 &&& (2147483647 : Int32)) % ((1 : Int32) + (p1 &&& (15 : Int32))))), .val (.int ((p5 &&& (2147483647 : Int32)) % ((1 : Int32) + (p1 &&& (15 : Int32))))), .val (.ref b1), .unset, .unset, .unset, .unset, .unset, .unset] [(.ref b4)])) st4 ?_
  refine own_st (F' := T4.setTop (mkF m 60 #[.val (.int p1), .val (.int p2), .val (.int p3), .val (.int p4), .val (.int p5), .val (.int ((1 : Int32) + (p1 &&& (15 : Int32)))), .val (.int ((p2 &&& (2147483647 : Int32)) % ((1 : Int32) + (p1 &&& (15 : Int32))))), .val (.int ((p3 &&& (2147483647 : Int32)) % ((1 : Int32) + (p1 &&& (15 : Int32))))), .val (.int ((p4 &&& (2147483647 : Int32)) % ((1 : Int32) + (p1 &&& (15 : Int32))))), .val (.int ((p5 &&& (2147483647 : Int32)) % ((1 : Int32) + (p1 &&& (15 : Int32))))), .val (.ref b1), .unset, .unset, .unset, .unset, .unset, .unset] [(.ref b4), (.ref b4)])) (fun t_ kk => XS.dup X4.here hx rfl (hb hby at_59) rfl rfl kk) ?_
  refine own_st (F' := T4.setTop (mkF m 62 #[.val (.int p1), .val (.int p2), .val (.int p3), .val (.int p4), .val (.int p5), .val (.int ((1 : Int32) + (p1 &&& (15 : Int32)))), .val (.int ((p2 &&& (2147483647 : Int32)) % ((1 : Int32) + (p1 &&& (15 : Int32))))), .val (.int ((p3 &&& (2147483647 : Int32)) % ((1 : Int32) + (p1 &&& (15 : Int32))))), .val (.int ((p4 &&& (2147483647 : Int32)) % ((1 : Int32) + (p1 &&& (15 : Int32))))), .val (.int ((p5 &&& (2147483647 : Int32)) % ((1 : Int32) + (p1 &&& (15 : Int32))))), .val (.ref b1), .unset, .unset, .unset, .unset, .unset, .unset] [(.int ((1 : Int32) + (p1 &&& (15 : Int32)))), (.ref b4), (.ref b4)])) (fun t_ kk => XS.iload X4.here hx rfl (hb hby at_60) rfl kk) ?_
  refine own_init X4 hx hZ (y := (⟨"com/example/slackline/slackline/planning/FileOrderSets", "<init>", "(I)V"⟩ : MethodName)) hown rfl (hw _ (List.mem_of_getElem? (i := 4) rfl)) (hw _ (List.mem_of_getElem? (i := 5) rfl)) (hw _ (List.mem_of_getElem? (i := 3) rfl)) (hw _ (List.mem_of_getElem? (i := 6) rfl)) (rm1 l Z a0 hw [] b4 ((1 : Int32) + (p1 &&& (15 : Int32))) h4 n0 Z5 A4 F4_depth F4_lows F4_highs F4_table F4_stamps F4_count F4_stamp g_b4 hpl.2) (by decide) (W := 1) (a := b4) (argsL := [(.int ((1 : Int32) + (p1 &&& (15 : Int32))))]) (rest := [(.ref b4)]) (by decide) (by decide) (by rw [hml]; rfl) (lenOf own_pd4 rfl) rfl rfl (Nat.le_of_eq rfl) (hb hby at_62) e4 (by decide) (by decide) ?_
  intro v6 T6 L6 hQ6 X6
  obtain ⟨rfl, N6q, K6, lb4, hb4, tb4, sb4, ⟨q1b4, q2b4, q3b4, q4b4⟩, disb4, I6⟩ := hQ6
  have N6 := Fr.app N3 N6q
  have geb4 : h3.size ≤ b4 := Nat.le_of_eq g4.symm
  have hgb4 : n0 ≤ b4 ∧ n0 ≤ lb4 ∧ n0 ≤ hb4 ∧ n0 ≤ tb4 ∧ n0 ≤ sb4 := ⟨g_b4, Nat.le_trans Z5 q1b4, Nat.le_trans Z5 q2b4, Nat.le_trans Z5 q3b4, Nat.le_trans Z5 q4b4⟩
  have bsb4 : h3.size ≤ h4.size := E4.1
  have gesb4 := own_ges geb4 (Nat.le_trans bsb4 q1b4) (Nat.le_trans bsb4 q2b4) (Nat.le_trans bsb4 q3b4) (Nat.le_trans bsb4 q4b4)
  have Z6 := Nat.le_trans Z5 K6.1
  obtain ⟨h6, e6⟩ : ∃ z, T6.heap = z := ⟨_, rfl⟩
  rw [e6] at K6 I6 Z6
  have ltsb4 := I6.lts
  have apart := own_apart ltsb1 gesb4
  have I7 := (I3.keep (Keep.ext (Keep.refl _ []) E4) (fun _ _ => by simp)).keep K6 (fun z hz hz2 => apart.2 z hz (by rw [List.mem_singleton.mp hz2]; exact List.mem_cons_self))
  have apart := own_apart ltsb1 gesb4
  show OWp p e below s _ _ _ (T6.setTop (mkF m 65 #[.val (.int p1), .val (.int p2), .val (.int p3), .val (.int p4), .val (.int p5), .val (.int ((1 : Int32) + (p1 &&& (15 : Int32)))), .val (.int ((p2 &&& (2147483647 : Int32)) % ((1 : Int32) + (p1 &&& (15 : Int32))))), .val (.int ((p3 &&& (2147483647 : Int32)) % ((1 : Int32) + (p1 &&& (15 : Int32))))), .val (.int ((p4 &&& (2147483647 : Int32)) % ((1 : Int32) + (p1 &&& (15 : Int32))))), .val (.int ((p5 &&& (2147483647 : Int32)) % ((1 : Int32) + (p1 &&& (15 : Int32))))), .val (.ref b1), .unset, .unset, .unset, .unset, .unset, .unset] [(.ref b4)]))
  refine own_st (F' := T6.setTop (mkF m 67 #[.val (.int p1), .val (.int p2), .val (.int p3), .val (.int p4), .val (.int p5), .val (.int ((1 : Int32) + (p1 &&& (15 : Int32)))), .val (.int ((p2 &&& (2147483647 : Int32)) % ((1 : Int32) + (p1 &&& (15 : Int32))))), .val (.int ((p3 &&& (2147483647 : Int32)) % ((1 : Int32) + (p1 &&& (15 : Int32))))), .val (.int ((p4 &&& (2147483647 : Int32)) % ((1 : Int32) + (p1 &&& (15 : Int32))))), .val (.int ((p5 &&& (2147483647 : Int32)) % ((1 : Int32) + (p1 &&& (15 : Int32))))), .val (.ref b1), .val (.ref b4), .unset, .unset, .unset, .unset, .unset] [])) (fun t_ kk => XS.astore X6.here hx rfl (hb hby at_65) rfl rfl (l' := #[.val (.int p1), .val (.int p2), .val (.int p3), .val (.int p4), .val (.int p5), .val (.int ((1 : Int32) + (p1 &&& (15 : Int32)))), .val (.int ((p2 &&& (2147483647 : Int32)) % ((1 : Int32) + (p1 &&& (15 : Int32))))), .val (.int ((p3 &&& (2147483647 : Int32)) % ((1 : Int32) + (p1 &&& (15 : Int32))))), .val (.int ((p4 &&& (2147483647 : Int32)) % ((1 : Int32) + (p1 &&& (15 : Int32))))), .val (.int ((p5 &&& (2147483647 : Int32)) % ((1 : Int32) + (p1 &&& (15 : Int32))))), .val (.ref b1), .val (.ref b4), .unset, .unset, .unset, .unset, .unset]) rfl kk) ?_
  refine own_st (F' := T6.setTop (mkF m 69 #[.val (.int p1), .val (.int p2), .val (.int p3), .val (.int p4), .val (.int p5), .val (.int ((1 : Int32) + (p1 &&& (15 : Int32)))), .val (.int ((p2 &&& (2147483647 : Int32)) % ((1 : Int32) + (p1 &&& (15 : Int32))))), .val (.int ((p3 &&& (2147483647 : Int32)) % ((1 : Int32) + (p1 &&& (15 : Int32))))), .val (.int ((p4 &&& (2147483647 : Int32)) % ((1 : Int32) + (p1 &&& (15 : Int32))))), .val (.int ((p5 &&& (2147483647 : Int32)) % ((1 : Int32) + (p1 &&& (15 : Int32))))), .val (.ref b1), .val (.ref b4), .unset, .unset, .unset, .unset, .unset] [(.ref b1)])) (fun t_ kk => XS.aload X6.here hx rfl (hb hby at_67) rfl rfl kk) ?_
  refine own_st (F' := T6.setTop (mkF m 70 #[.val (.int p1), .val (.int p2), .val (.int p3), .val (.int p4), .val (.int p5), .val (.int ((1 : Int32) + (p1 &&& (15 : Int32)))), .val (.int ((p2 &&& (2147483647 : Int32)) % ((1 : Int32) + (p1 &&& (15 : Int32))))), .val (.int ((p3 &&& (2147483647 : Int32)) % ((1 : Int32) + (p1 &&& (15 : Int32))))), .val (.int ((p4 &&& (2147483647 : Int32)) % ((1 : Int32) + (p1 &&& (15 : Int32))))), .val (.int ((p5 &&& (2147483647 : Int32)) % ((1 : Int32) + (p1 &&& (15 : Int32))))), .val (.ref b1), .val (.ref b4), .unset, .unset, .unset, .unset, .unset] [(.int (0 : Int32)), (.ref b1)])) (fun t_ kk => XS.iconst X6.here hx rfl (hb hby at_69) kk) ?_
  refine own_st (F' := T6.setTop (mkF m 72 #[.val (.int p1), .val (.int p2), .val (.int p3), .val (.int p4), .val (.int p5), .val (.int ((1 : Int32) + (p1 &&& (15 : Int32)))), .val (.int ((p2 &&& (2147483647 : Int32)) % ((1 : Int32) + (p1 &&& (15 : Int32))))), .val (.int ((p3 &&& (2147483647 : Int32)) % ((1 : Int32) + (p1 &&& (15 : Int32))))), .val (.int ((p4 &&& (2147483647 : Int32)) % ((1 : Int32) + (p1 &&& (15 : Int32))))), .val (.int ((p5 &&& (2147483647 : Int32)) % ((1 : Int32) + (p1 &&& (15 : Int32))))), .val (.ref b1), .val (.ref b4), .unset, .unset, .unset, .unset, .unset] [(.int ((p2 &&& (2147483647 : Int32)) % ((1 : Int32) + (p1 &&& (15 : Int32))))), (.int (0 : Int32)), (.ref b1)])) (fun t_ kk => XS.iload X6.here hx rfl (hb hby at_70) rfl kk) ?_
  have hx_8 : 0 < oCn oNew := by have := oNew_inv.1; omega
  have hc_8 : oCn oNew + (oDep ((1 : Int32) + (p1 &&& (15 : Int32)))) ≤ 16 := by have := (show oCn oNew = 2 from rfl); omega
  have hs_8 : oSt oNew < 64 := by have := (show oSt oNew = 1 from rfl); omega
  refine own_virt X6 hx hZ (y := (⟨"com/example/slackline/slackline/planning/FileOrderSets", "with", "(II)I"⟩ : MethodName)) hown (hw _ (List.mem_of_getElem? (i := 25) rfl)) (hw _ (List.mem_of_getElem? (i := 26) rfl)) (hw _ (List.mem_of_getElem? (i := 28) rfl)) (hw _ (List.mem_of_getElem? (i := 27) rfl)) (hw _ (List.mem_of_getElem? (i := 3) rfl)) (hw _ (List.mem_of_getElem? (i := 29) rfl)) I7.1 (rm3 l Z a0 hw [] b1 lb1 hb1 tb1 sb1 (oDep ((1 : Int32) + (p1 &&& (15 : Int32)))) oNew 0 ((p2 &&& (2147483647 : Int32)) % ((1 : Int32) + (p1 &&& (15 : Int32)))) h6 n0 Z6 I7 hgb1 disb1 oNew_inv hd4 hc_8 hs_8 hx_8) (by decide) (W := 0) (argsL := [(.int (0 : Int32)), (.int ((p2 &&& (2147483647 : Int32)) % ((1 : Int32) + (p1 &&& (15 : Int32)))))]) (rest := []) (by decide) (by decide) (by rw [hml]; rfl) (lenOf own_pd1 rfl) rfl rfl (Nat.le_of_eq rfl) (hb hby at_72) e6 (by decide) (by decide) ?_
  intro v8 T8 L8 hQ8 X8
  obtain ⟨rfl, N8q, K8, I8⟩ := hQ8
  have N8 := Fr.app N6 N8q
  have Z8 := Nat.le_trans Z6 K8.1
  obtain ⟨h8, e8⟩ : ∃ z, T8.heap = z := ⟨_, rfl⟩
  rw [e8] at K8 I8 Z8
  have I9 := I6.keep K8 (fun z hz => apart.1 z hz)
  have ok8 := oWith_ok ((p2 &&& (2147483647 : Int32)) % ((1 : Int32) + (p1 &&& (15 : Int32)))) (oDep ((1 : Int32) + (p1 &&& (15 : Int32)))) 0 oNew oNew_inv (by have := (show oCn oNew = 2 from rfl); omega) hx_8
  have st8 := (oWith_st ((p2 &&& (2147483647 : Int32)) % ((1 : Int32) + (p1 &&& (15 : Int32)))) (oDep ((1 : Int32) + (p1 &&& (15 : Int32)))) 0 oNew).trans (show oSt oNew = 1 from rfl)
  obtain ⟨S8, r8, hSr8⟩ : ∃ S r, oWith ((p2 &&& (2147483647 : Int32)) % ((1 : Int32) + (p1 &&& (15 : Int32)))) (oDep ((1 : Int32) + (p1 &&& (15 : Int32)))) 0 oNew = (S, r) := ⟨_, _, rfl⟩
  rw [hSr8] at I8 ok8 st8
  dsimp only at I8 ok8 st8
  rw [hSr8]
  show OWp p e below s _ _ _ (T8.setTop (mkF m 75 #[.val (.int p1), .val (.int p2), .val (.int p3), .val (.int p4), .val (.int p5), .val (.int ((1 : Int32) + (p1 &&& (15 : Int32)))), .val (.int ((p2 &&& (2147483647 : Int32)) % ((1 : Int32) + (p1 &&& (15 : Int32))))), .val (.int ((p3 &&& (2147483647 : Int32)) % ((1 : Int32) + (p1 &&& (15 : Int32))))), .val (.int ((p4 &&& (2147483647 : Int32)) % ((1 : Int32) + (p1 &&& (15 : Int32))))), .val (.int ((p5 &&& (2147483647 : Int32)) % ((1 : Int32) + (p1 &&& (15 : Int32))))), .val (.ref b1), .val (.ref b4), .unset, .unset, .unset, .unset, .unset] [(.int (Int32.ofNat r8))]))
  refine own_st (F' := T8.setTop (mkF m 77 #[.val (.int p1), .val (.int p2), .val (.int p3), .val (.int p4), .val (.int p5), .val (.int ((1 : Int32) + (p1 &&& (15 : Int32)))), .val (.int ((p2 &&& (2147483647 : Int32)) % ((1 : Int32) + (p1 &&& (15 : Int32))))), .val (.int ((p3 &&& (2147483647 : Int32)) % ((1 : Int32) + (p1 &&& (15 : Int32))))), .val (.int ((p4 &&& (2147483647 : Int32)) % ((1 : Int32) + (p1 &&& (15 : Int32))))), .val (.int ((p5 &&& (2147483647 : Int32)) % ((1 : Int32) + (p1 &&& (15 : Int32))))), .val (.ref b1), .val (.ref b4), .val (.int (Int32.ofNat r8)), .unset, .unset, .unset, .unset] [])) (fun t_ kk => XS.istore X8.here hx rfl (hb hby at_75) rfl (l' := #[.val (.int p1), .val (.int p2), .val (.int p3), .val (.int p4), .val (.int p5), .val (.int ((1 : Int32) + (p1 &&& (15 : Int32)))), .val (.int ((p2 &&& (2147483647 : Int32)) % ((1 : Int32) + (p1 &&& (15 : Int32))))), .val (.int ((p3 &&& (2147483647 : Int32)) % ((1 : Int32) + (p1 &&& (15 : Int32))))), .val (.int ((p4 &&& (2147483647 : Int32)) % ((1 : Int32) + (p1 &&& (15 : Int32))))), .val (.int ((p5 &&& (2147483647 : Int32)) % ((1 : Int32) + (p1 &&& (15 : Int32))))), .val (.ref b1), .val (.ref b4), .val (.int (Int32.ofNat r8)), .unset, .unset, .unset, .unset]) rfl kk) ?_
  refine own_st (F' := T8.setTop (mkF m 79 #[.val (.int p1), .val (.int p2), .val (.int p3), .val (.int p4), .val (.int p5), .val (.int ((1 : Int32) + (p1 &&& (15 : Int32)))), .val (.int ((p2 &&& (2147483647 : Int32)) % ((1 : Int32) + (p1 &&& (15 : Int32))))), .val (.int ((p3 &&& (2147483647 : Int32)) % ((1 : Int32) + (p1 &&& (15 : Int32))))), .val (.int ((p4 &&& (2147483647 : Int32)) % ((1 : Int32) + (p1 &&& (15 : Int32))))), .val (.int ((p5 &&& (2147483647 : Int32)) % ((1 : Int32) + (p1 &&& (15 : Int32))))), .val (.ref b1), .val (.ref b4), .val (.int (Int32.ofNat r8)), .unset, .unset, .unset, .unset] [(.int ((p3 &&& (2147483647 : Int32)) % ((1 : Int32) + (p1 &&& (15 : Int32)))))])) (fun t_ kk => XS.iload X8.here hx rfl (hb hby at_77) rfl kk) ?_
  refine own_st (F' := T8.setTop (mkF m 81 #[.val (.int p1), .val (.int p2), .val (.int p3), .val (.int p4), .val (.int p5), .val (.int ((1 : Int32) + (p1 &&& (15 : Int32)))), .val (.int ((p2 &&& (2147483647 : Int32)) % ((1 : Int32) + (p1 &&& (15 : Int32))))), .val (.int ((p3 &&& (2147483647 : Int32)) % ((1 : Int32) + (p1 &&& (15 : Int32))))), .val (.int ((p4 &&& (2147483647 : Int32)) % ((1 : Int32) + (p1 &&& (15 : Int32))))), .val (.int ((p5 &&& (2147483647 : Int32)) % ((1 : Int32) + (p1 &&& (15 : Int32))))), .val (.ref b1), .val (.ref b4), .val (.int (Int32.ofNat r8)), .unset, .unset, .unset, .unset] [(.int ((p2 &&& (2147483647 : Int32)) % ((1 : Int32) + (p1 &&& (15 : Int32))))), (.int ((p3 &&& (2147483647 : Int32)) % ((1 : Int32) + (p1 &&& (15 : Int32)))))])) (fun t_ kk => XS.iload X8.here hx rfl (hb hby at_79) rfl kk) ?_
  by_cases hc10 : ((p3 &&& (2147483647 : Int32)) % ((1 : Int32) + (p1 &&& (15 : Int32)))) = ((p2 &&& (2147483647 : Int32)) % ((1 : Int32) + (p1 &&& (15 : Int32))))
  · -- pc 81: ((p3 &&& (2147483647 : Int32)) % ((1 : Int32) + (p1 &&& (15 : Int32)))) = ((p2 &&& (2147483647 : Int32)) % ((1 : Int32) + (p1 &&& (15 : Int32))))
    refine own_st (F' := T8.setTop (mkF m 94 #[.val (.int p1), .val (.int p2), .val (.int p3), .val (.int p4), .val (.int p5), .val (.int ((1 : Int32) + (p1 &&& (15 : Int32)))), .val (.int ((p2 &&& (2147483647 : Int32)) % ((1 : Int32) + (p1 &&& (15 : Int32))))), .val (.int ((p3 &&& (2147483647 : Int32)) % ((1 : Int32) + (p1 &&& (15 : Int32))))), .val (.int ((p4 &&& (2147483647 : Int32)) % ((1 : Int32) + (p1 &&& (15 : Int32))))), .val (.int ((p5 &&& (2147483647 : Int32)) % ((1 : Int32) + (p1 &&& (15 : Int32))))), .val (.ref b1), .val (.ref b4), .val (.int (Int32.ofNat r8)), .unset, .unset, .unset, .unset] [])) (fun t_ kk => XS.icmpYes X8.here hx rfl (pc0 := 81) (pc' := 94) rfl (hb hby at_81) rfl (teq hc10).1 (by decide) (by decide) kk) ?_
    refine own_st (F' := T8.setTop (mkF m 96 #[.val (.int p1), .val (.int p2), .val (.int p3), .val (.int p4), .val (.int p5), .val (.int ((1 : Int32) + (p1 &&& (15 : Int32)))), .val (.int ((p2 &&& (2147483647 : Int32)) % ((1 : Int32) + (p1 &&& (15 : Int32))))), .val (.int ((p3 &&& (2147483647 : Int32)) % ((1 : Int32) + (p1 &&& (15 : Int32))))), .val (.int ((p4 &&& (2147483647 : Int32)) % ((1 : Int32) + (p1 &&& (15 : Int32))))), .val (.int ((p5 &&& (2147483647 : Int32)) % ((1 : Int32) + (p1 &&& (15 : Int32))))), .val (.ref b1), .val (.ref b4), .val (.int (Int32.ofNat r8)), .unset, .unset, .unset, .unset] [(.ref b1)])) (fun t_ kk => XS.aload X8.here hx rfl (hb hby at_94) rfl rfl kk) ?_
    refine own_virt X8 hx hZ (y := (⟨"com/example/slackline/slackline/planning/FileOrderSets", "clear", "()V"⟩ : MethodName)) hown (hw _ (List.mem_of_getElem? (i := 34) rfl)) (hw _ (List.mem_of_getElem? (i := 35) rfl)) (hw _ (List.mem_of_getElem? (i := 37) rfl)) (hw _ (List.mem_of_getElem? (i := 36) rfl)) (hw _ (List.mem_of_getElem? (i := 3) rfl)) (hw _ (List.mem_of_getElem? (i := 38) rfl)) I8.1 (rm5 l Z a0 hw [] b1 lb1 hb1 tb1 sb1 (oDep ((1 : Int32) + (p1 &&& (15 : Int32)))) S8 h8 n0 Z8 I8 hgb1 disb1) (by decide) (W := 0) (argsL := []) (rest := []) (by decide) (by decide) (by rw [hml]; rfl) (lenOf own_pd5 rfl) rfl rfl (Nat.le_of_eq rfl) (hb hby at_96) e8 (by decide) (by decide) ?_
    intro v11 T11 L11 hQ11 X11
    obtain ⟨rfl, N11q, K11, I11⟩ := hQ11
    have N11 := Fr.app N8 N11q
    have Z11 := Nat.le_trans Z8 K11.1
    obtain ⟨h11, e11⟩ : ∃ z, T11.heap = z := ⟨_, rfl⟩
    rw [e11] at K11 I11 Z11
    have I12 := I9.keep K11 (fun z hz => apart.1 z hz)
    show OWp p e below s _ _ _ (T11.setTop (mkF m 99 #[.val (.int p1), .val (.int p2), .val (.int p3), .val (.int p4), .val (.int p5), .val (.int ((1 : Int32) + (p1 &&& (15 : Int32)))), .val (.int ((p2 &&& (2147483647 : Int32)) % ((1 : Int32) + (p1 &&& (15 : Int32))))), .val (.int ((p3 &&& (2147483647 : Int32)) % ((1 : Int32) + (p1 &&& (15 : Int32))))), .val (.int ((p4 &&& (2147483647 : Int32)) % ((1 : Int32) + (p1 &&& (15 : Int32))))), .val (.int ((p5 &&& (2147483647 : Int32)) % ((1 : Int32) + (p1 &&& (15 : Int32))))), .val (.ref b1), .val (.ref b4), .val (.int (Int32.ofNat r8)), .unset, .unset, .unset, .unset] []))
    refine own_st (F' := T11.setTop (mkF m 101 #[.val (.int p1), .val (.int p2), .val (.int p3), .val (.int p4), .val (.int p5), .val (.int ((1 : Int32) + (p1 &&& (15 : Int32)))), .val (.int ((p2 &&& (2147483647 : Int32)) % ((1 : Int32) + (p1 &&& (15 : Int32))))), .val (.int ((p3 &&& (2147483647 : Int32)) % ((1 : Int32) + (p1 &&& (15 : Int32))))), .val (.int ((p4 &&& (2147483647 : Int32)) % ((1 : Int32) + (p1 &&& (15 : Int32))))), .val (.int ((p5 &&& (2147483647 : Int32)) % ((1 : Int32) + (p1 &&& (15 : Int32))))), .val (.ref b1), .val (.ref b4), .val (.int (Int32.ofNat r8)), .unset, .unset, .unset, .unset] [(.ref b1)])) (fun t_ kk => XS.aload X11.here hx rfl (hb hby at_99) rfl rfl kk) ?_
    refine own_st (F' := T11.setTop (mkF m 102 #[.val (.int p1), .val (.int p2), .val (.int p3), .val (.int p4), .val (.int p5), .val (.int ((1 : Int32) + (p1 &&& (15 : Int32)))), .val (.int ((p2 &&& (2147483647 : Int32)) % ((1 : Int32) + (p1 &&& (15 : Int32))))), .val (.int ((p3 &&& (2147483647 : Int32)) % ((1 : Int32) + (p1 &&& (15 : Int32))))), .val (.int ((p4 &&& (2147483647 : Int32)) % ((1 : Int32) + (p1 &&& (15 : Int32))))), .val (.int ((p5 &&& (2147483647 : Int32)) % ((1 : Int32) + (p1 &&& (15 : Int32))))), .val (.ref b1), .val (.ref b4), .val (.int (Int32.ofNat r8)), .unset, .unset, .unset, .unset] [(.int (0 : Int32)), (.ref b1)])) (fun t_ kk => XS.iconst X11.here hx rfl (hb hby at_101) kk) ?_
    refine own_st (F' := T11.setTop (mkF m 104 #[.val (.int p1), .val (.int p2), .val (.int p3), .val (.int p4), .val (.int p5), .val (.int ((1 : Int32) + (p1 &&& (15 : Int32)))), .val (.int ((p2 &&& (2147483647 : Int32)) % ((1 : Int32) + (p1 &&& (15 : Int32))))), .val (.int ((p3 &&& (2147483647 : Int32)) % ((1 : Int32) + (p1 &&& (15 : Int32))))), .val (.int ((p4 &&& (2147483647 : Int32)) % ((1 : Int32) + (p1 &&& (15 : Int32))))), .val (.int ((p5 &&& (2147483647 : Int32)) % ((1 : Int32) + (p1 &&& (15 : Int32))))), .val (.ref b1), .val (.ref b4), .val (.int (Int32.ofNat r8)), .unset, .unset, .unset, .unset] [(.int ((p4 &&& (2147483647 : Int32)) % ((1 : Int32) + (p1 &&& (15 : Int32))))), (.int (0 : Int32)), (.ref b1)])) (fun t_ kk => XS.iload X11.here hx rfl (hb hby at_102) rfl kk) ?_
    have hx_13 : 0 < oCn (oClear S8) := by have := (oClear_inv ok8.1).1; omega
    have hc_13 : oCn (oClear S8) + (oDep ((1 : Int32) + (p1 &&& (15 : Int32)))) ≤ 16 := by have := (show oCn (oClear S8) = 2 from rfl); omega
    have hs_13 : oSt (oClear S8) < 64 := by have := (show oSt (oClear S8) = 2 from congrArg (· + 1) st8); omega
    refine own_virt X11 hx hZ (y := (⟨"com/example/slackline/slackline/planning/FileOrderSets", "with", "(II)I"⟩ : MethodName)) hown (hw _ (List.mem_of_getElem? (i := 25) rfl)) (hw _ (List.mem_of_getElem? (i := 26) rfl)) (hw _ (List.mem_of_getElem? (i := 28) rfl)) (hw _ (List.mem_of_getElem? (i := 27) rfl)) (hw _ (List.mem_of_getElem? (i := 3) rfl)) (hw _ (List.mem_of_getElem? (i := 29) rfl)) I11.1 (rm3 l Z a0 hw [] b1 lb1 hb1 tb1 sb1 (oDep ((1 : Int32) + (p1 &&& (15 : Int32)))) (oClear S8) 0 ((p4 &&& (2147483647 : Int32)) % ((1 : Int32) + (p1 &&& (15 : Int32)))) h11 n0 Z11 I11 hgb1 disb1 (oClear_inv ok8.1) hd4 hc_13 hs_13 hx_13) (by decide) (W := 0) (argsL := [(.int (0 : Int32)), (.int ((p4 &&& (2147483647 : Int32)) % ((1 : Int32) + (p1 &&& (15 : Int32)))))]) (rest := []) (by decide) (by decide) (by rw [hml]; rfl) (lenOf own_pd1 rfl) rfl rfl (Nat.le_of_eq rfl) (hb hby at_104) e11 (by decide) (by decide) ?_
    intro v13 T13 L13 hQ13 X13
    obtain ⟨rfl, N13q, K13, I13⟩ := hQ13
    have N13 := Fr.app N11 N13q
    have Z13 := Nat.le_trans Z11 K13.1
    obtain ⟨h13, e13⟩ : ∃ z, T13.heap = z := ⟨_, rfl⟩
    rw [e13] at K13 I13 Z13
    have I14 := I12.keep K13 (fun z hz => apart.1 z hz)
    have ok13 := oWith_ok ((p4 &&& (2147483647 : Int32)) % ((1 : Int32) + (p1 &&& (15 : Int32)))) (oDep ((1 : Int32) + (p1 &&& (15 : Int32)))) 0 (oClear S8) (oClear_inv ok8.1) (by have := (show oCn (oClear S8) = 2 from rfl); omega) hx_13
    have st13 := (oWith_st ((p4 &&& (2147483647 : Int32)) % ((1 : Int32) + (p1 &&& (15 : Int32)))) (oDep ((1 : Int32) + (p1 &&& (15 : Int32)))) 0 (oClear S8)).trans (show oSt (oClear S8) = 2 from congrArg (· + 1) st8)
    obtain ⟨S13, r13, hSr13⟩ : ∃ S r, oWith ((p4 &&& (2147483647 : Int32)) % ((1 : Int32) + (p1 &&& (15 : Int32)))) (oDep ((1 : Int32) + (p1 &&& (15 : Int32)))) 0 (oClear S8) = (S, r) := ⟨_, _, rfl⟩
    rw [hSr13] at I13 ok13 st13
    dsimp only at I13 ok13 st13
    rw [hSr13]
    show OWp p e below s _ _ _ (T13.setTop (mkF m 107 #[.val (.int p1), .val (.int p2), .val (.int p3), .val (.int p4), .val (.int p5), .val (.int ((1 : Int32) + (p1 &&& (15 : Int32)))), .val (.int ((p2 &&& (2147483647 : Int32)) % ((1 : Int32) + (p1 &&& (15 : Int32))))), .val (.int ((p3 &&& (2147483647 : Int32)) % ((1 : Int32) + (p1 &&& (15 : Int32))))), .val (.int ((p4 &&& (2147483647 : Int32)) % ((1 : Int32) + (p1 &&& (15 : Int32))))), .val (.int ((p5 &&& (2147483647 : Int32)) % ((1 : Int32) + (p1 &&& (15 : Int32))))), .val (.ref b1), .val (.ref b4), .val (.int (Int32.ofNat r8)), .unset, .unset, .unset, .unset] [(.int (Int32.ofNat r13))]))
    refine own_st (F' := T13.setTop (mkF m 109 #[.val (.int p1), .val (.int p2), .val (.int p3), .val (.int p4), .val (.int p5), .val (.int ((1 : Int32) + (p1 &&& (15 : Int32)))), .val (.int ((p2 &&& (2147483647 : Int32)) % ((1 : Int32) + (p1 &&& (15 : Int32))))), .val (.int ((p3 &&& (2147483647 : Int32)) % ((1 : Int32) + (p1 &&& (15 : Int32))))), .val (.int ((p4 &&& (2147483647 : Int32)) % ((1 : Int32) + (p1 &&& (15 : Int32))))), .val (.int ((p5 &&& (2147483647 : Int32)) % ((1 : Int32) + (p1 &&& (15 : Int32))))), .val (.ref b1), .val (.ref b4), .val (.int (Int32.ofNat r8)), .val (.int (Int32.ofNat r13)), .unset, .unset, .unset] [])) (fun t_ kk => XS.istore X13.here hx rfl (hb hby at_107) rfl (l' := #[.val (.int p1), .val (.int p2), .val (.int p3), .val (.int p4), .val (.int p5), .val (.int ((1 : Int32) + (p1 &&& (15 : Int32)))), .val (.int ((p2 &&& (2147483647 : Int32)) % ((1 : Int32) + (p1 &&& (15 : Int32))))), .val (.int ((p3 &&& (2147483647 : Int32)) % ((1 : Int32) + (p1 &&& (15 : Int32))))), .val (.int ((p4 &&& (2147483647 : Int32)) % ((1 : Int32) + (p1 &&& (15 : Int32))))), .val (.int ((p5 &&& (2147483647 : Int32)) % ((1 : Int32) + (p1 &&& (15 : Int32))))), .val (.ref b1), .val (.ref b4), .val (.int (Int32.ofNat r8)), .val (.int (Int32.ofNat r13)), .unset, .unset, .unset]) rfl kk) ?_
    refine own_st (F' := T13.setTop (mkF m 111 #[.val (.int p1), .val (.int p2), .val (.int p3), .val (.int p4), .val (.int p5), .val (.int ((1 : Int32) + (p1 &&& (15 : Int32)))), .val (.int ((p2 &&& (2147483647 : Int32)) % ((1 : Int32) + (p1 &&& (15 : Int32))))), .val (.int ((p3 &&& (2147483647 : Int32)) % ((1 : Int32) + (p1 &&& (15 : Int32))))), .val (.int ((p4 &&& (2147483647 : Int32)) % ((1 : Int32) + (p1 &&& (15 : Int32))))), .val (.int ((p5 &&& (2147483647 : Int32)) % ((1 : Int32) + (p1 &&& (15 : Int32))))), .val (.ref b1), .val (.ref b4), .val (.int (Int32.ofNat r8)), .val (.int (Int32.ofNat r13)), .unset, .unset, .unset] [(.ref b4)])) (fun t_ kk => XS.aload X13.here hx rfl (hb hby at_109) rfl rfl kk) ?_
    refine own_st (F' := T13.setTop (mkF m 112 #[.val (.int p1), .val (.int p2), .val (.int p3), .val (.int p4), .val (.int p5), .val (.int ((1 : Int32) + (p1 &&& (15 : Int32)))), .val (.int ((p2 &&& (2147483647 : Int32)) % ((1 : Int32) + (p1 &&& (15 : Int32))))), .val (.int ((p3 &&& (2147483647 : Int32)) % ((1 : Int32) + (p1 &&& (15 : Int32))))), .val (.int ((p4 &&& (2147483647 : Int32)) % ((1 : Int32) + (p1 &&& (15 : Int32))))), .val (.int ((p5 &&& (2147483647 : Int32)) % ((1 : Int32) + (p1 &&& (15 : Int32))))), .val (.ref b1), .val (.ref b4), .val (.int (Int32.ofNat r8)), .val (.int (Int32.ofNat r13)), .unset, .unset, .unset] [(.int (0 : Int32)), (.ref b4)])) (fun t_ kk => XS.iconst X13.here hx rfl (hb hby at_111) kk) ?_
    refine own_st (F' := T13.setTop (mkF m 114 #[.val (.int p1), .val (.int p2), .val (.int p3), .val (.int p4), .val (.int p5), .val (.int ((1 : Int32) + (p1 &&& (15 : Int32)))), .val (.int ((p2 &&& (2147483647 : Int32)) % ((1 : Int32) + (p1 &&& (15 : Int32))))), .val (.int ((p3 &&& (2147483647 : Int32)) % ((1 : Int32) + (p1 &&& (15 : Int32))))), .val (.int ((p4 &&& (2147483647 : Int32)) % ((1 : Int32) + (p1 &&& (15 : Int32))))), .val (.int ((p5 &&& (2147483647 : Int32)) % ((1 : Int32) + (p1 &&& (15 : Int32))))), .val (.ref b1), .val (.ref b4), .val (.int (Int32.ofNat r8)), .val (.int (Int32.ofNat r13)), .unset, .unset, .unset] [(.int ((p4 &&& (2147483647 : Int32)) % ((1 : Int32) + (p1 &&& (15 : Int32))))), (.int (0 : Int32)), (.ref b4)])) (fun t_ kk => XS.iload X13.here hx rfl (hb hby at_112) rfl kk) ?_
    have hx_15 : 0 < oCn oNew := by have := oNew_inv.1; omega
    have hc_15 : oCn oNew + (oDep ((1 : Int32) + (p1 &&& (15 : Int32)))) ≤ 16 := by have := (show oCn oNew = 2 from rfl); omega
    have hs_15 : oSt oNew < 64 := by have := (show oSt oNew = 1 from rfl); omega
    refine own_virt X13 hx hZ (y := (⟨"com/example/slackline/slackline/planning/FileOrderSets", "with", "(II)I"⟩ : MethodName)) hown (hw _ (List.mem_of_getElem? (i := 25) rfl)) (hw _ (List.mem_of_getElem? (i := 26) rfl)) (hw _ (List.mem_of_getElem? (i := 28) rfl)) (hw _ (List.mem_of_getElem? (i := 27) rfl)) (hw _ (List.mem_of_getElem? (i := 3) rfl)) (hw _ (List.mem_of_getElem? (i := 29) rfl)) I14.1 (rm3 l Z a0 hw [] b4 lb4 hb4 tb4 sb4 (oDep ((1 : Int32) + (p1 &&& (15 : Int32)))) oNew 0 ((p4 &&& (2147483647 : Int32)) % ((1 : Int32) + (p1 &&& (15 : Int32)))) h13 n0 Z13 I14 hgb4 disb4 oNew_inv hd4 hc_15 hs_15 hx_15) (by decide) (W := 0) (argsL := [(.int (0 : Int32)), (.int ((p4 &&& (2147483647 : Int32)) % ((1 : Int32) + (p1 &&& (15 : Int32)))))]) (rest := []) (by decide) (by decide) (by rw [hml]; rfl) (lenOf own_pd1 rfl) rfl rfl (Nat.le_of_eq rfl) (hb hby at_114) e13 (by decide) (by decide) ?_
    intro v15 T15 L15 hQ15 X15
    obtain ⟨rfl, N15q, K15, I15⟩ := hQ15
    have N15 := Fr.app N13 N15q
    have Z15 := Nat.le_trans Z13 K15.1
    obtain ⟨h15, e15⟩ : ∃ z, T15.heap = z := ⟨_, rfl⟩
    rw [e15] at K15 I15 Z15
    have I16 := I13.keep K15 (fun z hz => apart.2 z hz)
    have ok15 := oWith_ok ((p4 &&& (2147483647 : Int32)) % ((1 : Int32) + (p1 &&& (15 : Int32)))) (oDep ((1 : Int32) + (p1 &&& (15 : Int32)))) 0 oNew oNew_inv (by have := (show oCn oNew = 2 from rfl); omega) hx_15
    have st15 := (oWith_st ((p4 &&& (2147483647 : Int32)) % ((1 : Int32) + (p1 &&& (15 : Int32)))) (oDep ((1 : Int32) + (p1 &&& (15 : Int32)))) 0 oNew).trans (show oSt oNew = 1 from rfl)
    have rl15 := oWith_rel ((p4 &&& (2147483647 : Int32)) % ((1 : Int32) + (p1 &&& (15 : Int32)))) (oDep ((1 : Int32) + (p1 &&& (15 : Int32)))) 0 (oClear S8) oNew (oClear_inv ok8.1) (oClear_rel ok8.1) (by have := (show oCn (oClear S8) = 2 from rfl); omega) hx_13
    obtain ⟨S15, r15, hSr15⟩ : ∃ S r, oWith ((p4 &&& (2147483647 : Int32)) % ((1 : Int32) + (p1 &&& (15 : Int32)))) (oDep ((1 : Int32) + (p1 &&& (15 : Int32)))) 0 oNew = (S, r) := ⟨_, _, rfl⟩
    rw [hSr15] at I15 ok15 st15
    dsimp only at I15 ok15 st15
    rw [hSr15]
    rw [hSr15, hSr13] at rl15
    have req15 : r13 = r15 := rl15.1
    have rel15 : ORel S13 S15 := rl15.2
    subst req15
    show OWp p e below s _ _ _ (T15.setTop (mkF m 117 #[.val (.int p1), .val (.int p2), .val (.int p3), .val (.int p4), .val (.int p5), .val (.int ((1 : Int32) + (p1 &&& (15 : Int32)))), .val (.int ((p2 &&& (2147483647 : Int32)) % ((1 : Int32) + (p1 &&& (15 : Int32))))), .val (.int ((p3 &&& (2147483647 : Int32)) % ((1 : Int32) + (p1 &&& (15 : Int32))))), .val (.int ((p4 &&& (2147483647 : Int32)) % ((1 : Int32) + (p1 &&& (15 : Int32))))), .val (.int ((p5 &&& (2147483647 : Int32)) % ((1 : Int32) + (p1 &&& (15 : Int32))))), .val (.ref b1), .val (.ref b4), .val (.int (Int32.ofNat r8)), .val (.int (Int32.ofNat r13)), .unset, .unset, .unset] [(.int (Int32.ofNat r13))]))
    show OWp p e below s _ _ _ (T15.setTop (mkF m 117 #[.val (.int p1), .val (.int p2), .val (.int p3), .val (.int p4), .val (.int p5), .val (.int ((1 : Int32) + (p1 &&& (15 : Int32)))), .val (.int ((p2 &&& (2147483647 : Int32)) % ((1 : Int32) + (p1 &&& (15 : Int32))))), .val (.int ((p3 &&& (2147483647 : Int32)) % ((1 : Int32) + (p1 &&& (15 : Int32))))), .val (.int ((p4 &&& (2147483647 : Int32)) % ((1 : Int32) + (p1 &&& (15 : Int32))))), .val (.int ((p5 &&& (2147483647 : Int32)) % ((1 : Int32) + (p1 &&& (15 : Int32))))), .val (.ref b1), .val (.ref b4), .val (.int (Int32.ofNat r8)), .val (.int (Int32.ofNat r13)), .unset, .unset, .unset] [(.int (Int32.ofNat r13))]))
    refine own_st (F' := T15.setTop (mkF m 119 #[.val (.int p1), .val (.int p2), .val (.int p3), .val (.int p4), .val (.int p5), .val (.int ((1 : Int32) + (p1 &&& (15 : Int32)))), .val (.int ((p2 &&& (2147483647 : Int32)) % ((1 : Int32) + (p1 &&& (15 : Int32))))), .val (.int ((p3 &&& (2147483647 : Int32)) % ((1 : Int32) + (p1 &&& (15 : Int32))))), .val (.int ((p4 &&& (2147483647 : Int32)) % ((1 : Int32) + (p1 &&& (15 : Int32))))), .val (.int ((p5 &&& (2147483647 : Int32)) % ((1 : Int32) + (p1 &&& (15 : Int32))))), .val (.ref b1), .val (.ref b4), .val (.int (Int32.ofNat r8)), .val (.int (Int32.ofNat r13)), .val (.int (Int32.ofNat r13)), .unset, .unset] [])) (fun t_ kk => XS.istore X15.here hx rfl (hb hby at_117) rfl (l' := #[.val (.int p1), .val (.int p2), .val (.int p3), .val (.int p4), .val (.int p5), .val (.int ((1 : Int32) + (p1 &&& (15 : Int32)))), .val (.int ((p2 &&& (2147483647 : Int32)) % ((1 : Int32) + (p1 &&& (15 : Int32))))), .val (.int ((p3 &&& (2147483647 : Int32)) % ((1 : Int32) + (p1 &&& (15 : Int32))))), .val (.int ((p4 &&& (2147483647 : Int32)) % ((1 : Int32) + (p1 &&& (15 : Int32))))), .val (.int ((p5 &&& (2147483647 : Int32)) % ((1 : Int32) + (p1 &&& (15 : Int32))))), .val (.ref b1), .val (.ref b4), .val (.int (Int32.ofNat r8)), .val (.int (Int32.ofNat r13)), .val (.int (Int32.ofNat r13)), .unset, .unset]) rfl kk) ?_
    refine own_st (F' := T15.setTop (mkF m 121 #[.val (.int p1), .val (.int p2), .val (.int p3), .val (.int p4), .val (.int p5), .val (.int ((1 : Int32) + (p1 &&& (15 : Int32)))), .val (.int ((p2 &&& (2147483647 : Int32)) % ((1 : Int32) + (p1 &&& (15 : Int32))))), .val (.int ((p3 &&& (2147483647 : Int32)) % ((1 : Int32) + (p1 &&& (15 : Int32))))), .val (.int ((p4 &&& (2147483647 : Int32)) % ((1 : Int32) + (p1 &&& (15 : Int32))))), .val (.int ((p5 &&& (2147483647 : Int32)) % ((1 : Int32) + (p1 &&& (15 : Int32))))), .val (.ref b1), .val (.ref b4), .val (.int (Int32.ofNat r8)), .val (.int (Int32.ofNat r13)), .val (.int (Int32.ofNat r13)), .unset, .unset] [(.int (Int32.ofNat r13))])) (fun t_ kk => XS.iload X15.here hx rfl (hb hby at_119) rfl kk) ?_
    refine own_st (F' := T15.setTop (mkF m 123 #[.val (.int p1), .val (.int p2), .val (.int p3), .val (.int p4), .val (.int p5), .val (.int ((1 : Int32) + (p1 &&& (15 : Int32)))), .val (.int ((p2 &&& (2147483647 : Int32)) % ((1 : Int32) + (p1 &&& (15 : Int32))))), .val (.int ((p3 &&& (2147483647 : Int32)) % ((1 : Int32) + (p1 &&& (15 : Int32))))), .val (.int ((p4 &&& (2147483647 : Int32)) % ((1 : Int32) + (p1 &&& (15 : Int32))))), .val (.int ((p5 &&& (2147483647 : Int32)) % ((1 : Int32) + (p1 &&& (15 : Int32))))), .val (.ref b1), .val (.ref b4), .val (.int (Int32.ofNat r8)), .val (.int (Int32.ofNat r13)), .val (.int (Int32.ofNat r13)), .val (.int (Int32.ofNat r13)), .unset] [])) (fun t_ kk => XS.istore X15.here hx rfl (hb hby at_121) rfl (l' := #[.val (.int p1), .val (.int p2), .val (.int p3), .val (.int p4), .val (.int p5), .val (.int ((1 : Int32) + (p1 &&& (15 : Int32)))), .val (.int ((p2 &&& (2147483647 : Int32)) % ((1 : Int32) + (p1 &&& (15 : Int32))))), .val (.int ((p3 &&& (2147483647 : Int32)) % ((1 : Int32) + (p1 &&& (15 : Int32))))), .val (.int ((p4 &&& (2147483647 : Int32)) % ((1 : Int32) + (p1 &&& (15 : Int32))))), .val (.int ((p5 &&& (2147483647 : Int32)) % ((1 : Int32) + (p1 &&& (15 : Int32))))), .val (.ref b1), .val (.ref b4), .val (.int (Int32.ofNat r8)), .val (.int (Int32.ofNat r13)), .val (.int (Int32.ofNat r13)), .val (.int (Int32.ofNat r13)), .unset]) rfl kk) ?_
    refine own_st (F' := T15.setTop (mkF m 125 #[.val (.int p1), .val (.int p2), .val (.int p3), .val (.int p4), .val (.int p5), .val (.int ((1 : Int32) + (p1 &&& (15 : Int32)))), .val (.int ((p2 &&& (2147483647 : Int32)) % ((1 : Int32) + (p1 &&& (15 : Int32))))), .val (.int ((p3 &&& (2147483647 : Int32)) % ((1 : Int32) + (p1 &&& (15 : Int32))))), .val (.int ((p4 &&& (2147483647 : Int32)) % ((1 : Int32) + (p1 &&& (15 : Int32))))), .val (.int ((p5 &&& (2147483647 : Int32)) % ((1 : Int32) + (p1 &&& (15 : Int32))))), .val (.ref b1), .val (.ref b4), .val (.int (Int32.ofNat r8)), .val (.int (Int32.ofNat r13)), .val (.int (Int32.ofNat r13)), .val (.int (Int32.ofNat r13)), .unset] [(.int (Int32.ofNat r13))])) (fun t_ kk => XS.iload X15.here hx rfl (hb hby at_123) rfl kk) ?_
    refine own_st (F' := T15.setTop (mkF m 127 #[.val (.int p1), .val (.int p2), .val (.int p3), .val (.int p4), .val (.int p5), .val (.int ((1 : Int32) + (p1 &&& (15 : Int32)))), .val (.int ((p2 &&& (2147483647 : Int32)) % ((1 : Int32) + (p1 &&& (15 : Int32))))), .val (.int ((p3 &&& (2147483647 : Int32)) % ((1 : Int32) + (p1 &&& (15 : Int32))))), .val (.int ((p4 &&& (2147483647 : Int32)) % ((1 : Int32) + (p1 &&& (15 : Int32))))), .val (.int ((p5 &&& (2147483647 : Int32)) % ((1 : Int32) + (p1 &&& (15 : Int32))))), .val (.ref b1), .val (.ref b4), .val (.int (Int32.ofNat r8)), .val (.int (Int32.ofNat r13)), .val (.int (Int32.ofNat r13)), .val (.int (Int32.ofNat r13)), .val (.int (Int32.ofNat r13))] [])) (fun t_ kk => XS.istore X15.here hx rfl (hb hby at_125) rfl (l' := #[.val (.int p1), .val (.int p2), .val (.int p3), .val (.int p4), .val (.int p5), .val (.int ((1 : Int32) + (p1 &&& (15 : Int32)))), .val (.int ((p2 &&& (2147483647 : Int32)) % ((1 : Int32) + (p1 &&& (15 : Int32))))), .val (.int ((p3 &&& (2147483647 : Int32)) % ((1 : Int32) + (p1 &&& (15 : Int32))))), .val (.int ((p4 &&& (2147483647 : Int32)) % ((1 : Int32) + (p1 &&& (15 : Int32))))), .val (.int ((p5 &&& (2147483647 : Int32)) % ((1 : Int32) + (p1 &&& (15 : Int32))))), .val (.ref b1), .val (.ref b4), .val (.int (Int32.ofNat r8)), .val (.int (Int32.ofNat r13)), .val (.int (Int32.ofNat r13)), .val (.int (Int32.ofNat r13)), .val (.int (Int32.ofNat r13))]) rfl kk) ?_
    refine own_st (F' := T15.setTop (mkF m 129 #[.val (.int p1), .val (.int p2), .val (.int p3), .val (.int p4), .val (.int p5), .val (.int ((1 : Int32) + (p1 &&& (15 : Int32)))), .val (.int ((p2 &&& (2147483647 : Int32)) % ((1 : Int32) + (p1 &&& (15 : Int32))))), .val (.int ((p3 &&& (2147483647 : Int32)) % ((1 : Int32) + (p1 &&& (15 : Int32))))), .val (.int ((p4 &&& (2147483647 : Int32)) % ((1 : Int32) + (p1 &&& (15 : Int32))))), .val (.int ((p5 &&& (2147483647 : Int32)) % ((1 : Int32) + (p1 &&& (15 : Int32))))), .val (.ref b1), .val (.ref b4), .val (.int (Int32.ofNat r8)), .val (.int (Int32.ofNat r13)), .val (.int (Int32.ofNat r13)), .val (.int (Int32.ofNat r13)), .val (.int (Int32.ofNat r13))] [(.int ((p5 &&& (2147483647 : Int32)) % ((1 : Int32) + (p1 &&& (15 : Int32)))))])) (fun t_ kk => XS.iload X15.here hx rfl (hb hby at_127) rfl kk) ?_
    refine own_st (F' := T15.setTop (mkF m 131 #[.val (.int p1), .val (.int p2), .val (.int p3), .val (.int p4), .val (.int p5), .val (.int ((1 : Int32) + (p1 &&& (15 : Int32)))), .val (.int ((p2 &&& (2147483647 : Int32)) % ((1 : Int32) + (p1 &&& (15 : Int32))))), .val (.int ((p3 &&& (2147483647 : Int32)) % ((1 : Int32) + (p1 &&& (15 : Int32))))), .val (.int ((p4 &&& (2147483647 : Int32)) % ((1 : Int32) + (p1 &&& (15 : Int32))))), .val (.int ((p5 &&& (2147483647 : Int32)) % ((1 : Int32) + (p1 &&& (15 : Int32))))), .val (.ref b1), .val (.ref b4), .val (.int (Int32.ofNat r8)), .val (.int (Int32.ofNat r13)), .val (.int (Int32.ofNat r13)), .val (.int (Int32.ofNat r13)), .val (.int (Int32.ofNat r13))] [(.int ((p4 &&& (2147483647 : Int32)) % ((1 : Int32) + (p1 &&& (15 : Int32))))), (.int ((p5 &&& (2147483647 : Int32)) % ((1 : Int32) + (p1 &&& (15 : Int32)))))])) (fun t_ kk => XS.iload X15.here hx rfl (hb hby at_129) rfl kk) ?_
    by_cases hc17 : ((p5 &&& (2147483647 : Int32)) % ((1 : Int32) + (p1 &&& (15 : Int32)))) = ((p4 &&& (2147483647 : Int32)) % ((1 : Int32) + (p1 &&& (15 : Int32))))
    · -- pc 131: ((p5 &&& (2147483647 : Int32)) % ((1 : Int32) + (p1 &&& (15 : Int32)))) = ((p4 &&& (2147483647 : Int32)) % ((1 : Int32) + (p1 &&& (15 : Int32))))
      refine own_st (F' := T15.setTop (mkF m 156 #[.val (.int p1), .val (.int p2), .val (.int p3), .val (.int p4), .val (.int p5), .val (.int ((1 : Int32) + (p1 &&& (15 : Int32)))), .val (.int ((p2 &&& (2147483647 : Int32)) % ((1 : Int32) + (p1 &&& (15 : Int32))))), .val (.int ((p3 &&& (2147483647 : Int32)) % ((1 : Int32) + (p1 &&& (15 : Int32))))), .val (.int ((p4 &&& (2147483647 : Int32)) % ((1 : Int32) + (p1 &&& (15 : Int32))))), .val (.int ((p5 &&& (2147483647 : Int32)) % ((1 : Int32) + (p1 &&& (15 : Int32))))), .val (.ref b1), .val (.ref b4), .val (.int (Int32.ofNat r8)), .val (.int (Int32.ofNat r13)), .val (.int (Int32.ofNat r13)), .val (.int (Int32.ofNat r13)), .val (.int (Int32.ofNat r13))] [])) (fun t_ kk => XS.icmpYes X15.here hx rfl (pc0 := 131) (pc' := 156) rfl (hb hby at_131) rfl (teq hc17).1 (by decide) (by decide) kk) ?_
      refine own_st (F' := T15.setTop (mkF m 158 #[.val (.int p1), .val (.int p2), .val (.int p3), .val (.int p4), .val (.int p5), .val (.int ((1 : Int32) + (p1 &&& (15 : Int32)))), .val (.int ((p2 &&& (2147483647 : Int32)) % ((1 : Int32) + (p1 &&& (15 : Int32))))), .val (.int ((p3 &&& (2147483647 : Int32)) % ((1 : Int32) + (p1 &&& (15 : Int32))))), .val (.int ((p4 &&& (2147483647 : Int32)) % ((1 : Int32) + (p1 &&& (15 : Int32))))), .val (.int ((p5 &&& (2147483647 : Int32)) % ((1 : Int32) + (p1 &&& (15 : Int32))))), .val (.ref b1), .val (.ref b4), .val (.int (Int32.ofNat r8)), .val (.int (Int32.ofNat r13)), .val (.int (Int32.ofNat r13)), .val (.int (Int32.ofNat r13)), .val (.int (Int32.ofNat r13))] [(.int (Int32.ofNat r13))])) (fun t_ kk => XS.iload X15.here hx rfl (hb hby at_156) rfl kk) ?_
      refine own_st (F' := T15.setTop (mkF m 160 #[.val (.int p1), .val (.int p2), .val (.int p3), .val (.int p4), .val (.int p5), .val (.int ((1 : Int32) + (p1 &&& (15 : Int32)))), .val (.int ((p2 &&& (2147483647 : Int32)) % ((1 : Int32) + (p1 &&& (15 : Int32))))), .val (.int ((p3 &&& (2147483647 : Int32)) % ((1 : Int32) + (p1 &&& (15 : Int32))))), .val (.int ((p4 &&& (2147483647 : Int32)) % ((1 : Int32) + (p1 &&& (15 : Int32))))), .val (.int ((p5 &&& (2147483647 : Int32)) % ((1 : Int32) + (p1 &&& (15 : Int32))))), .val (.ref b1), .val (.ref b4), .val (.int (Int32.ofNat r8)), .val (.int (Int32.ofNat r13)), .val (.int (Int32.ofNat r13)), .val (.int (Int32.ofNat r13)), .val (.int (Int32.ofNat r13))] [(.int (Int32.ofNat r13)), (.int (Int32.ofNat r13))])) (fun t_ kk => XS.iload X15.here hx rfl (hb hby at_158) rfl kk) ?_
      refine own_st (F' := T15.setTop (mkF m 163 #[.val (.int p1), .val (.int p2), .val (.int p3), .val (.int p4), .val (.int p5), .val (.int ((1 : Int32) + (p1 &&& (15 : Int32)))), .val (.int ((p2 &&& (2147483647 : Int32)) % ((1 : Int32) + (p1 &&& (15 : Int32))))), .val (.int ((p3 &&& (2147483647 : Int32)) % ((1 : Int32) + (p1 &&& (15 : Int32))))), .val (.int ((p4 &&& (2147483647 : Int32)) % ((1 : Int32) + (p1 &&& (15 : Int32))))), .val (.int ((p5 &&& (2147483647 : Int32)) % ((1 : Int32) + (p1 &&& (15 : Int32))))), .val (.ref b1), .val (.ref b4), .val (.int (Int32.ofNat r8)), .val (.int (Int32.ofNat r13)), .val (.int (Int32.ofNat r13)), .val (.int (Int32.ofNat r13)), .val (.int (Int32.ofNat r13))] [])) (fun t_ kk => XS.icmpNo X15.here hx rfl (hb hby at_160) rfl (teq (rfl : (Int32.ofNat r13) = (Int32.ofNat r13))).2 kk) ?_
      refine own_st (F' := T15.setTop (mkF m 165 #[.val (.int p1), .val (.int p2), .val (.int p3), .val (.int p4), .val (.int p5), .val (.int ((1 : Int32) + (p1 &&& (15 : Int32)))), .val (.int ((p2 &&& (2147483647 : Int32)) % ((1 : Int32) + (p1 &&& (15 : Int32))))), .val (.int ((p3 &&& (2147483647 : Int32)) % ((1 : Int32) + (p1 &&& (15 : Int32))))), .val (.int ((p4 &&& (2147483647 : Int32)) % ((1 : Int32) + (p1 &&& (15 : Int32))))), .val (.int ((p5 &&& (2147483647 : Int32)) % ((1 : Int32) + (p1 &&& (15 : Int32))))), .val (.ref b1), .val (.ref b4), .val (.int (Int32.ofNat r8)), .val (.int (Int32.ofNat r13)), .val (.int (Int32.ofNat r13)), .val (.int (Int32.ofNat r13)), .val (.int (Int32.ofNat r13))] [(.int (Int32.ofNat r13))])) (fun t_ kk => XS.iload X15.here hx rfl (hb hby at_163) rfl kk) ?_
      refine own_st (F' := T15.setTop (mkF m 167 #[.val (.int p1), .val (.int p2), .val (.int p3), .val (.int p4), .val (.int p5), .val (.int ((1 : Int32) + (p1 &&& (15 : Int32)))), .val (.int ((p2 &&& (2147483647 : Int32)) % ((1 : Int32) + (p1 &&& (15 : Int32))))), .val (.int ((p3 &&& (2147483647 : Int32)) % ((1 : Int32) + (p1 &&& (15 : Int32))))), .val (.int ((p4 &&& (2147483647 : Int32)) % ((1 : Int32) + (p1 &&& (15 : Int32))))), .val (.int ((p5 &&& (2147483647 : Int32)) % ((1 : Int32) + (p1 &&& (15 : Int32))))), .val (.ref b1), .val (.ref b4), .val (.int (Int32.ofNat r8)), .val (.int (Int32.ofNat r13)), .val (.int (Int32.ofNat r13)), .val (.int (Int32.ofNat r13)), .val (.int (Int32.ofNat r13))] [(.int (Int32.ofNat r13)), (.int (Int32.ofNat r13))])) (fun t_ kk => XS.iload X15.here hx rfl (hb hby at_165) rfl kk) ?_
      refine own_st (F' := T15.setTop (mkF m 170 #[.val (.int p1), .val (.int p2), .val (.int p3), .val (.int p4), .val (.int p5), .val (.int ((1 : Int32) + (p1 &&& (15 : Int32)))), .val (.int ((p2 &&& (2147483647 : Int32)) % ((1 : Int32) + (p1 &&& (15 : Int32))))), .val (.int ((p3 &&& (2147483647 : Int32)) % ((1 : Int32) + (p1 &&& (15 : Int32))))), .val (.int ((p4 &&& (2147483647 : Int32)) % ((1 : Int32) + (p1 &&& (15 : Int32))))), .val (.int ((p5 &&& (2147483647 : Int32)) % ((1 : Int32) + (p1 &&& (15 : Int32))))), .val (.ref b1), .val (.ref b4), .val (.int (Int32.ofNat r8)), .val (.int (Int32.ofNat r13)), .val (.int (Int32.ofNat r13)), .val (.int (Int32.ofNat r13)), .val (.int (Int32.ofNat r13))] [])) (fun t_ kk => XS.icmpNo X15.here hx rfl (hb hby at_167) rfl (teq (rfl : (Int32.ofNat r13) = (Int32.ofNat r13))).2 kk) ?_
      refine own_st (F' := T15.setTop (mkF m 171 #[.val (.int p1), .val (.int p2), .val (.int p3), .val (.int p4), .val (.int p5), .val (.int ((1 : Int32) + (p1 &&& (15 : Int32)))), .val (.int ((p2 &&& (2147483647 : Int32)) % ((1 : Int32) + (p1 &&& (15 : Int32))))), .val (.int ((p3 &&& (2147483647 : Int32)) % ((1 : Int32) + (p1 &&& (15 : Int32))))), .val (.int ((p4 &&& (2147483647 : Int32)) % ((1 : Int32) + (p1 &&& (15 : Int32))))), .val (.int ((p5 &&& (2147483647 : Int32)) % ((1 : Int32) + (p1 &&& (15 : Int32))))), .val (.ref b1), .val (.ref b4), .val (.int (Int32.ofNat r8)), .val (.int (Int32.ofNat r13)), .val (.int (Int32.ofNat r13)), .val (.int (Int32.ofNat r13)), .val (.int (Int32.ofNat r13))] [(.int (1 : Int32))])) (fun t_ kk => XS.iconst X15.here hx rfl (hb hby at_170) kk) ?_
      refine own_st (F' := T15.setTop (mkF m 175 #[.val (.int p1), .val (.int p2), .val (.int p3), .val (.int p4), .val (.int p5), .val (.int ((1 : Int32) + (p1 &&& (15 : Int32)))), .val (.int ((p2 &&& (2147483647 : Int32)) % ((1 : Int32) + (p1 &&& (15 : Int32))))), .val (.int ((p3 &&& (2147483647 : Int32)) % ((1 : Int32) + (p1 &&& (15 : Int32))))), .val (.int ((p4 &&& (2147483647 : Int32)) % ((1 : Int32) + (p1 &&& (15 : Int32))))), .val (.int ((p5 &&& (2147483647 : Int32)) % ((1 : Int32) + (p1 &&& (15 : Int32))))), .val (.ref b1), .val (.ref b4), .val (.int (Int32.ofNat r8)), .val (.int (Int32.ofNat r13)), .val (.int (Int32.ofNat r13)), .val (.int (Int32.ofNat r13)), .val (.int (Int32.ofNat r13))] [(.int (1 : Int32))])) (fun t_ kk => XS.goto X15.here hx rfl (pc0 := 171) (pc' := 175) rfl (hb hby at_171) (by decide) (by decide) kk) ?_
      refine own_fin X15 (some (.int (1 : Int32))) (fun h => by rw [Bd.returns] at h; cases h) Bd.notSynchronized (by decide) (by decide) (fun fs hr => retN X15 hx (t := .boolean) Bd.returns (by simp) (hb hby at_175) hr) ?_
      rw [e15]
      exact ⟨rfl, N15⟩
    · -- pc 131: not ((p5 &&& (2147483647 : Int32)) % ((1 : Int32) + (p1 &&& (15 : Int32)))) = ((p4 &&& (2147483647 : Int32)) % ((1 : Int32) + (p1 &&& (15 : Int32))))
      refine own_st (F' := T15.setTop (mkF m 134 #[.val (.int p1), .val (.int p2), .val (.int p3), .val (.int p4), .val (.int p5), .val (.int ((1 : Int32) + (p1 &&& (15 : Int32)))), .val (.int ((p2 &&& (2147483647 : Int32)) % ((1 : Int32) + (p1 &&& (15 : Int32))))), .val (.int ((p3 &&& (2147483647 : Int32)) % ((1 : Int32) + (p1 &&& (15 : Int32))))), .val (.int ((p4 &&& (2147483647 : Int32)) % ((1 : Int32) + (p1 &&& (15 : Int32))))), .val (.int ((p5 &&& (2147483647 : Int32)) % ((1 : Int32) + (p1 &&& (15 : Int32))))), .val (.ref b1), .val (.ref b4), .val (.int (Int32.ofNat r8)), .val (.int (Int32.ofNat r13)), .val (.int (Int32.ofNat r13)), .val (.int (Int32.ofNat r13)), .val (.int (Int32.ofNat r13))] [])) (fun t_ kk => XS.icmpNo X15.here hx rfl (hb hby at_131) rfl (feq hc17).1 kk) ?_
      refine own_st (F' := T15.setTop (mkF m 136 #[.val (.int p1), .val (.int p2), .val (.int p3), .val (.int p4), .val (.int p5), .val (.int ((1 : Int32) + (p1 &&& (15 : Int32)))), .val (.int ((p2 &&& (2147483647 : Int32)) % ((1 : Int32) + (p1 &&& (15 : Int32))))), .val (.int ((p3 &&& (2147483647 : Int32)) % ((1 : Int32) + (p1 &&& (15 : Int32))))), .val (.int ((p4 &&& (2147483647 : Int32)) % ((1 : Int32) + (p1 &&& (15 : Int32))))), .val (.int ((p5 &&& (2147483647 : Int32)) % ((1 : Int32) + (p1 &&& (15 : Int32))))), .val (.ref b1), .val (.ref b4), .val (.int (Int32.ofNat r8)), .val (.int (Int32.ofNat r13)), .val (.int (Int32.ofNat r13)), .val (.int (Int32.ofNat r13)), .val (.int (Int32.ofNat r13))] [(.ref b1)])) (fun t_ kk => XS.aload X15.here hx rfl (hb hby at_134) rfl rfl kk) ?_
      refine own_st (F' := T15.setTop (mkF m 138 #[.val (.int p1), .val (.int p2), .val (.int p3), .val (.int p4), .val (.int p5), .val (.int ((1 : Int32) + (p1 &&& (15 : Int32)))), .val (.int ((p2 &&& (2147483647 : Int32)) % ((1 : Int32) + (p1 &&& (15 : Int32))))), .val (.int ((p3 &&& (2147483647 : Int32)) % ((1 : Int32) + (p1 &&& (15 : Int32))))), .val (.int ((p4 &&& (2147483647 : Int32)) % ((1 : Int32) + (p1 &&& (15 : Int32))))), .val (.int ((p5 &&& (2147483647 : Int32)) % ((1 : Int32) + (p1 &&& (15 : Int32))))), .val (.ref b1), .val (.ref b4), .val (.int (Int32.ofNat r8)), .val (.int (Int32.ofNat r13)), .val (.int (Int32.ofNat r13)), .val (.int (Int32.ofNat r13)), .val (.int (Int32.ofNat r13))] [(.int (Int32.ofNat r13)), (.ref b1)])) (fun t_ kk => XS.iload X15.here hx rfl (hb hby at_136) rfl kk) ?_
      refine own_st (F' := T15.setTop (mkF m 140 #[.val (.int p1), .val (.int p2), .val (.int p3), .val (.int p4), .val (.int p5), .val (.int ((1 : Int32) + (p1 &&& (15 : Int32)))), .val (.int ((p2 &&& (2147483647 : Int32)) % ((1 : Int32) + (p1 &&& (15 : Int32))))), .val (.int ((p3 &&& (2147483647 : Int32)) % ((1 : Int32) + (p1 &&& (15 : Int32))))), .val (.int ((p4 &&& (2147483647 : Int32)) % ((1 : Int32) + (p1 &&& (15 : Int32))))), .val (.int ((p5 &&& (2147483647 : Int32)) % ((1 : Int32) + (p1 &&& (15 : Int32))))), .val (.ref b1), .val (.ref b4), .val (.int (Int32.ofNat r8)), .val (.int (Int32.ofNat r13)), .val (.int (Int32.ofNat r13)), .val (.int (Int32.ofNat r13)), .val (.int (Int32.ofNat r13))] [(.int ((p5 &&& (2147483647 : Int32)) % ((1 : Int32) + (p1 &&& (15 : Int32))))), (.int (Int32.ofNat r13)), (.ref b1)])) (fun t_ kk => XS.iload X15.here hx rfl (hb hby at_138) rfl kk) ?_
      have hx_18 : r13 < oCn S13 := ok13.2.1
      have hc_18 : oCn S13 + (oDep ((1 : Int32) + (p1 &&& (15 : Int32)))) ≤ 16 := by have := (show oCn S13 ≤ 6 by have := ok13.2.2.2; have := (show oCn (oClear S8) = 2 from rfl); omega); omega
      have hs_18 : oSt S13 < 64 := by have := st13; omega
      refine own_virt X15 hx hZ (y := (⟨"com/example/slackline/slackline/planning/FileOrderSets", "with", "(II)I"⟩ : MethodName)) hown (hw _ (List.mem_of_getElem? (i := 25) rfl)) (hw _ (List.mem_of_getElem? (i := 26) rfl)) (hw _ (List.mem_of_getElem? (i := 28) rfl)) (hw _ (List.mem_of_getElem? (i := 27) rfl)) (hw _ (List.mem_of_getElem? (i := 3) rfl)) (hw _ (List.mem_of_getElem? (i := 29) rfl)) I16.1 (rm3 l Z a0 hw [] b1 lb1 hb1 tb1 sb1 (oDep ((1 : Int32) + (p1 &&& (15 : Int32)))) S13 r13 ((p5 &&& (2147483647 : Int32)) % ((1 : Int32) + (p1 &&& (15 : Int32)))) h15 n0 Z15 I16 hgb1 disb1 ok13.1 hd4 hc_18 hs_18 hx_18) (by decide) (W := 0) (argsL := [(.int (Int32.ofNat r13)), (.int ((p5 &&& (2147483647 : Int32)) % ((1 : Int32) + (p1 &&& (15 : Int32)))))]) (rest := []) (by decide) (by decide) (by rw [hml]; rfl) (lenOf own_pd1 rfl) rfl rfl (Nat.le_of_eq rfl) (hb hby at_140) e15 (by decide) (by decide) ?_
      intro v18 T18 L18 hQ18 X18
      obtain ⟨rfl, N18q, K18, I18⟩ := hQ18
      have N18 := Fr.app N15 N18q
      have Z18 := Nat.le_trans Z15 K18.1
      obtain ⟨h18, e18⟩ : ∃ z, T18.heap = z := ⟨_, rfl⟩
      rw [e18] at K18 I18 Z18
      have I19 := I15.keep K18 (fun z hz => apart.1 z hz)
      have ok18 := oWith_ok ((p5 &&& (2147483647 : Int32)) % ((1 : Int32) + (p1 &&& (15 : Int32)))) (oDep ((1 : Int32) + (p1 &&& (15 : Int32)))) r13 S13 ok13.1 (by have := (show oCn S13 ≤ 6 by have := ok13.2.2.2; have := (show oCn (oClear S8) = 2 from rfl); omega); omega) hx_18
      have st18 := (oWith_st ((p5 &&& (2147483647 : Int32)) % ((1 : Int32) + (p1 &&& (15 : Int32)))) (oDep ((1 : Int32) + (p1 &&& (15 : Int32)))) r13 S13).trans st13
      obtain ⟨S18, r18, hSr18⟩ : ∃ S r, oWith ((p5 &&& (2147483647 : Int32)) % ((1 : Int32) + (p1 &&& (15 : Int32)))) (oDep ((1 : Int32) + (p1 &&& (15 : Int32)))) r13 S13 = (S, r) := ⟨_, _, rfl⟩
      rw [hSr18] at I18 ok18 st18
      dsimp only at I18 ok18 st18
      rw [hSr18]
      show OWp p e below s _ _ _ (T18.setTop (mkF m 143 #[.val (.int p1), .val (.int p2), .val (.int p3), .val (.int p4), .val (.int p5), .val (.int ((1 : Int32) + (p1 &&& (15 : Int32)))), .val (.int ((p2 &&& (2147483647 : Int32)) % ((1 : Int32) + (p1 &&& (15 : Int32))))), .val (.int ((p3 &&& (2147483647 : Int32)) % ((1 : Int32) + (p1 &&& (15 : Int32))))), .val (.int ((p4 &&& (2147483647 : Int32)) % ((1 : Int32) + (p1 &&& (15 : Int32))))), .val (.int ((p5 &&& (2147483647 : Int32)) % ((1 : Int32) + (p1 &&& (15 : Int32))))), .val (.ref b1), .val (.ref b4), .val (.int (Int32.ofNat r8)), .val (.int (Int32.ofNat r13)), .val (.int (Int32.ofNat r13)), .val (.int (Int32.ofNat r13)), .val (.int (Int32.ofNat r13))] [(.int (Int32.ofNat r18))]))
      refine own_st (F' := T18.setTop (mkF m 145 #[.val (.int p1), .val (.int p2), .val (.int p3), .val (.int p4), .val (.int p5), .val (.int ((1 : Int32) + (p1 &&& (15 : Int32)))), .val (.int ((p2 &&& (2147483647 : Int32)) % ((1 : Int32) + (p1 &&& (15 : Int32))))), .val (.int ((p3 &&& (2147483647 : Int32)) % ((1 : Int32) + (p1 &&& (15 : Int32))))), .val (.int ((p4 &&& (2147483647 : Int32)) % ((1 : Int32) + (p1 &&& (15 : Int32))))), .val (.int ((p5 &&& (2147483647 : Int32)) % ((1 : Int32) + (p1 &&& (15 : Int32))))), .val (.ref b1), .val (.ref b4), .val (.int (Int32.ofNat r8)), .val (.int (Int32.ofNat r13)), .val (.int (Int32.ofNat r13)), .val (.int (Int32.ofNat r18)), .val (.int (Int32.ofNat r13))] [])) (fun t_ kk => XS.istore X18.here hx rfl (hb hby at_143) rfl (l' := #[.val (.int p1), .val (.int p2), .val (.int p3), .val (.int p4), .val (.int p5), .val (.int ((1 : Int32) + (p1 &&& (15 : Int32)))), .val (.int ((p2 &&& (2147483647 : Int32)) % ((1 : Int32) + (p1 &&& (15 : Int32))))), .val (.int ((p3 &&& (2147483647 : Int32)) % ((1 : Int32) + (p1 &&& (15 : Int32))))), .val (.int ((p4 &&& (2147483647 : Int32)) % ((1 : Int32) + (p1 &&& (15 : Int32))))), .val (.int ((p5 &&& (2147483647 : Int32)) % ((1 : Int32) + (p1 &&& (15 : Int32))))), .val (.ref b1), .val (.ref b4), .val (.int (Int32.ofNat r8)), .val (.int (Int32.ofNat r13)), .val (.int (Int32.ofNat r13)), .val (.int (Int32.ofNat r18)), .val (.int (Int32.ofNat r13))]) rfl kk) ?_
      refine own_st (F' := T18.setTop (mkF m 147 #[.val (.int p1), .val (.int p2), .val (.int p3), .val (.int p4), .val (.int p5), .val (.int ((1 : Int32) + (p1 &&& (15 : Int32)))), .val (.int ((p2 &&& (2147483647 : Int32)) % ((1 : Int32) + (p1 &&& (15 : Int32))))), .val (.int ((p3 &&& (2147483647 : Int32)) % ((1 : Int32) + (p1 &&& (15 : Int32))))), .val (.int ((p4 &&& (2147483647 : Int32)) % ((1 : Int32) + (p1 &&& (15 : Int32))))), .val (.int ((p5 &&& (2147483647 : Int32)) % ((1 : Int32) + (p1 &&& (15 : Int32))))), .val (.ref b1), .val (.ref b4), .val (.int (Int32.ofNat r8)), .val (.int (Int32.ofNat r13)), .val (.int (Int32.ofNat r13)), .val (.int (Int32.ofNat r18)), .val (.int (Int32.ofNat r13))] [(.ref b4)])) (fun t_ kk => XS.aload X18.here hx rfl (hb hby at_145) rfl rfl kk) ?_
      refine own_st (F' := T18.setTop (mkF m 149 #[.val (.int p1), .val (.int p2), .val (.int p3), .val (.int p4), .val (.int p5), .val (.int ((1 : Int32) + (p1 &&& (15 : Int32)))), .val (.int ((p2 &&& (2147483647 : Int32)) % ((1 : Int32) + (p1 &&& (15 : Int32))))), .val (.int ((p3 &&& (2147483647 : Int32)) % ((1 : Int32) + (p1 &&& (15 : Int32))))), .val (.int ((p4 &&& (2147483647 : Int32)) % ((1 : Int32) + (p1 &&& (15 : Int32))))), .val (.int ((p5 &&& (2147483647 : Int32)) % ((1 : Int32) + (p1 &&& (15 : Int32))))), .val (.ref b1), .val (.ref b4), .val (.int (Int32.ofNat r8)), .val (.int (Int32.ofNat r13)), .val (.int (Int32.ofNat r13)), .val (.int (Int32.ofNat r18)), .val (.int (Int32.ofNat r13))] [(.int (Int32.ofNat r13)), (.ref b4)])) (fun t_ kk => XS.iload X18.here hx rfl (hb hby at_147) rfl kk) ?_
      refine own_st (F' := T18.setTop (mkF m 151 #[.val (.int p1), .val (.int p2), .val (.int p3), .val (.int p4), .val (.int p5), .val (.int ((1 : Int32) + (p1 &&& (15 : Int32)))), .val (.int ((p2 &&& (2147483647 : Int32)) % ((1 : Int32) + (p1 &&& (15 : Int32))))), .val (.int ((p3 &&& (2147483647 : Int32)) % ((1 : Int32) + (p1 &&& (15 : Int32))))), .val (.int ((p4 &&& (2147483647 : Int32)) % ((1 : Int32) + (p1 &&& (15 : Int32))))), .val (.int ((p5 &&& (2147483647 : Int32)) % ((1 : Int32) + (p1 &&& (15 : Int32))))), .val (.ref b1), .val (.ref b4), .val (.int (Int32.ofNat r8)), .val (.int (Int32.ofNat r13)), .val (.int (Int32.ofNat r13)), .val (.int (Int32.ofNat r18)), .val (.int (Int32.ofNat r13))] [(.int ((p5 &&& (2147483647 : Int32)) % ((1 : Int32) + (p1 &&& (15 : Int32))))), (.int (Int32.ofNat r13)), (.ref b4)])) (fun t_ kk => XS.iload X18.here hx rfl (hb hby at_149) rfl kk) ?_
      have hx_20 : r13 < oCn S15 := ok15.2.1
      have hc_20 : oCn S15 + (oDep ((1 : Int32) + (p1 &&& (15 : Int32)))) ≤ 16 := by have := (show oCn S15 ≤ 6 by have := ok15.2.2.2; have := (show oCn oNew = 2 from rfl); omega); omega
      have hs_20 : oSt S15 < 64 := by have := st15; omega
      refine own_virt X18 hx hZ (y := (⟨"com/example/slackline/slackline/planning/FileOrderSets", "with", "(II)I"⟩ : MethodName)) hown (hw _ (List.mem_of_getElem? (i := 25) rfl)) (hw _ (List.mem_of_getElem? (i := 26) rfl)) (hw _ (List.mem_of_getElem? (i := 28) rfl)) (hw _ (List.mem_of_getElem? (i := 27) rfl)) (hw _ (List.mem_of_getElem? (i := 3) rfl)) (hw _ (List.mem_of_getElem? (i := 29) rfl)) I19.1 (rm3 l Z a0 hw [] b4 lb4 hb4 tb4 sb4 (oDep ((1 : Int32) + (p1 &&& (15 : Int32)))) S15 r13 ((p5 &&& (2147483647 : Int32)) % ((1 : Int32) + (p1 &&& (15 : Int32)))) h18 n0 Z18 I19 hgb4 disb4 ok15.1 hd4 hc_20 hs_20 hx_20) (by decide) (W := 0) (argsL := [(.int (Int32.ofNat r13)), (.int ((p5 &&& (2147483647 : Int32)) % ((1 : Int32) + (p1 &&& (15 : Int32)))))]) (rest := []) (by decide) (by decide) (by rw [hml]; rfl) (lenOf own_pd1 rfl) rfl rfl (Nat.le_of_eq rfl) (hb hby at_151) e18 (by decide) (by decide) ?_
      intro v20 T20 L20 hQ20 X20
      obtain ⟨rfl, N20q, K20, I20⟩ := hQ20
      have N20 := Fr.app N18 N20q
      have Z20 := Nat.le_trans Z18 K20.1
      obtain ⟨h20, e20⟩ : ∃ z, T20.heap = z := ⟨_, rfl⟩
      rw [e20] at K20 I20 Z20
      have I21 := I18.keep K20 (fun z hz => apart.2 z hz)
      have ok20 := oWith_ok ((p5 &&& (2147483647 : Int32)) % ((1 : Int32) + (p1 &&& (15 : Int32)))) (oDep ((1 : Int32) + (p1 &&& (15 : Int32)))) r13 S15 ok15.1 (by have := (show oCn S15 ≤ 6 by have := ok15.2.2.2; have := (show oCn oNew = 2 from rfl); omega); omega) hx_20
      have st20 := (oWith_st ((p5 &&& (2147483647 : Int32)) % ((1 : Int32) + (p1 &&& (15 : Int32)))) (oDep ((1 : Int32) + (p1 &&& (15 : Int32)))) r13 S15).trans st15
      have rl20 := oWith_rel ((p5 &&& (2147483647 : Int32)) % ((1 : Int32) + (p1 &&& (15 : Int32)))) (oDep ((1 : Int32) + (p1 &&& (15 : Int32)))) r13 S13 S15 ok13.1 rel15 (by have := (show oCn S13 ≤ 6 by have := ok13.2.2.2; have := (show oCn (oClear S8) = 2 from rfl); omega); omega) hx_18
      obtain ⟨S20, r20, hSr20⟩ : ∃ S r, oWith ((p5 &&& (2147483647 : Int32)) % ((1 : Int32) + (p1 &&& (15 : Int32)))) (oDep ((1 : Int32) + (p1 &&& (15 : Int32)))) r13 S15 = (S, r) := ⟨_, _, rfl⟩
      rw [hSr20] at I20 ok20 st20
      dsimp only at I20 ok20 st20
      rw [hSr20]
      rw [hSr20, hSr18] at rl20
      have req20 : r18 = r20 := rl20.1
      have rel20 : ORel S18 S20 := rl20.2
      subst req20
      show OWp p e below s _ _ _ (T20.setTop (mkF m 154 #[.val (.int p1), .val (.int p2), .val (.int p3), .val (.int p4), .val (.int p5), .val (.int ((1 : Int32) + (p1 &&& (15 : Int32)))), .val (.int ((p2 &&& (2147483647 : Int32)) % ((1 : Int32) + (p1 &&& (15 : Int32))))), .val (.int ((p3 &&& (2147483647 : Int32)) % ((1 : Int32) + (p1 &&& (15 : Int32))))), .val (.int ((p4 &&& (2147483647 : Int32)) % ((1 : Int32) + (p1 &&& (15 : Int32))))), .val (.int ((p5 &&& (2147483647 : Int32)) % ((1 : Int32) + (p1 &&& (15 : Int32))))), .val (.ref b1), .val (.ref b4), .val (.int (Int32.ofNat r8)), .val (.int (Int32.ofNat r13)), .val (.int (Int32.ofNat r13)), .val (.int (Int32.ofNat r18)), .val (.int (Int32.ofNat r13))] [(.int (Int32.ofNat r18))]))
      show OWp p e below s _ _ _ (T20.setTop (mkF m 154 #[.val (.int p1), .val (.int p2), .val (.int p3), .val (.int p4), .val (.int p5), .val (.int ((1 : Int32) + (p1 &&& (15 : Int32)))), .val (.int ((p2 &&& (2147483647 : Int32)) % ((1 : Int32) + (p1 &&& (15 : Int32))))), .val (.int ((p3 &&& (2147483647 : Int32)) % ((1 : Int32) + (p1 &&& (15 : Int32))))), .val (.int ((p4 &&& (2147483647 : Int32)) % ((1 : Int32) + (p1 &&& (15 : Int32))))), .val (.int ((p5 &&& (2147483647 : Int32)) % ((1 : Int32) + (p1 &&& (15 : Int32))))), .val (.ref b1), .val (.ref b4), .val (.int (Int32.ofNat r8)), .val (.int (Int32.ofNat r13)), .val (.int (Int32.ofNat r13)), .val (.int (Int32.ofNat r18)), .val (.int (Int32.ofNat r13))] [(.int (Int32.ofNat r18))]))
      refine own_st (F' := T20.setTop (mkF m 156 #[.val (.int p1), .val (.int p2), .val (.int p3), .val (.int p4), .val (.int p5), .val (.int ((1 : Int32) + (p1 &&& (15 : Int32)))), .val (.int ((p2 &&& (2147483647 : Int32)) % ((1 : Int32) + (p1 &&& (15 : Int32))))), .val (.int ((p3 &&& (2147483647 : Int32)) % ((1 : Int32) + (p1 &&& (15 : Int32))))), .val (.int ((p4 &&& (2147483647 : Int32)) % ((1 : Int32) + (p1 &&& (15 : Int32))))), .val (.int ((p5 &&& (2147483647 : Int32)) % ((1 : Int32) + (p1 &&& (15 : Int32))))), .val (.ref b1), .val (.ref b4), .val (.int (Int32.ofNat r8)), .val (.int (Int32.ofNat r13)), .val (.int (Int32.ofNat r13)), .val (.int (Int32.ofNat r18)), .val (.int (Int32.ofNat r18))] [])) (fun t_ kk => XS.istore X20.here hx rfl (hb hby at_154) rfl (l' := #[.val (.int p1), .val (.int p2), .val (.int p3), .val (.int p4), .val (.int p5), .val (.int ((1 : Int32) + (p1 &&& (15 : Int32)))), .val (.int ((p2 &&& (2147483647 : Int32)) % ((1 : Int32) + (p1 &&& (15 : Int32))))), .val (.int ((p3 &&& (2147483647 : Int32)) % ((1 : Int32) + (p1 &&& (15 : Int32))))), .val (.int ((p4 &&& (2147483647 : Int32)) % ((1 : Int32) + (p1 &&& (15 : Int32))))), .val (.int ((p5 &&& (2147483647 : Int32)) % ((1 : Int32) + (p1 &&& (15 : Int32))))), .val (.ref b1), .val (.ref b4), .val (.int (Int32.ofNat r8)), .val (.int (Int32.ofNat r13)), .val (.int (Int32.ofNat r13)), .val (.int (Int32.ofNat r18)), .val (.int (Int32.ofNat r18))]) rfl kk) ?_
      refine own_st (F' := T20.setTop (mkF m 158 #[.val (.int p1), .val (.int p2), .val (.int p3), .val (.int p4), .val (.int p5), .val (.int ((1 : Int32) + (p1 &&& (15 : Int32)))), .val (.int ((p2 &&& (2147483647 : Int32)) % ((1 : Int32) + (p1 &&& (15 : Int32))))), .val (.int ((p3 &&& (2147483647 : Int32)) % ((1 : Int32) + (p1 &&& (15 : Int32))))), .val (.int ((p4 &&& (2147483647 : Int32)) % ((1 : Int32) + (p1 &&& (15 : Int32))))), .val (.int ((p5 &&& (2147483647 : Int32)) % ((1 : Int32) + (p1 &&& (15 : Int32))))), .val (.ref b1), .val (.ref b4), .val (.int (Int32.ofNat r8)), .val (.int (Int32.ofNat r13)), .val (.int (Int32.ofNat r13)), .val (.int (Int32.ofNat r18)), .val (.int (Int32.ofNat r18))] [(.int (Int32.ofNat r13))])) (fun t_ kk => XS.iload X20.here hx rfl (hb hby at_156) rfl kk) ?_
      refine own_st (F' := T20.setTop (mkF m 160 #[.val (.int p1), .val (.int p2), .val (.int p3), .val (.int p4), .val (.int p5), .val (.int ((1 : Int32) + (p1 &&& (15 : Int32)))), .val (.int ((p2 &&& (2147483647 : Int32)) % ((1 : Int32) + (p1 &&& (15 : Int32))))), .val (.int ((p3 &&& (2147483647 : Int32)) % ((1 : Int32) + (p1 &&& (15 : Int32))))), .val (.int ((p4 &&& (2147483647 : Int32)) % ((1 : Int32) + (p1 &&& (15 : Int32))))), .val (.int ((p5 &&& (2147483647 : Int32)) % ((1 : Int32) + (p1 &&& (15 : Int32))))), .val (.ref b1), .val (.ref b4), .val (.int (Int32.ofNat r8)), .val (.int (Int32.ofNat r13)), .val (.int (Int32.ofNat r13)), .val (.int (Int32.ofNat r18)), .val (.int (Int32.ofNat r18))] [(.int (Int32.ofNat r13)), (.int (Int32.ofNat r13))])) (fun t_ kk => XS.iload X20.here hx rfl (hb hby at_158) rfl kk) ?_
      refine own_st (F' := T20.setTop (mkF m 163 #[.val (.int p1), .val (.int p2), .val (.int p3), .val (.int p4), .val (.int p5), .val (.int ((1 : Int32) + (p1 &&& (15 : Int32)))), .val (.int ((p2 &&& (2147483647 : Int32)) % ((1 : Int32) + (p1 &&& (15 : Int32))))), .val (.int ((p3 &&& (2147483647 : Int32)) % ((1 : Int32) + (p1 &&& (15 : Int32))))), .val (.int ((p4 &&& (2147483647 : Int32)) % ((1 : Int32) + (p1 &&& (15 : Int32))))), .val (.int ((p5 &&& (2147483647 : Int32)) % ((1 : Int32) + (p1 &&& (15 : Int32))))), .val (.ref b1), .val (.ref b4), .val (.int (Int32.ofNat r8)), .val (.int (Int32.ofNat r13)), .val (.int (Int32.ofNat r13)), .val (.int (Int32.ofNat r18)), .val (.int (Int32.ofNat r18))] [])) (fun t_ kk => XS.icmpNo X20.here hx rfl (hb hby at_160) rfl (teq (rfl : (Int32.ofNat r13) = (Int32.ofNat r13))).2 kk) ?_
      refine own_st (F' := T20.setTop (mkF m 165 #[.val (.int p1), .val (.int p2), .val (.int p3), .val (.int p4), .val (.int p5), .val (.int ((1 : Int32) + (p1 &&& (15 : Int32)))), .val (.int ((p2 &&& (2147483647 : Int32)) % ((1 : Int32) + (p1 &&& (15 : Int32))))), .val (.int ((p3 &&& (2147483647 : Int32)) % ((1 : Int32) + (p1 &&& (15 : Int32))))), .val (.int ((p4 &&& (2147483647 : Int32)) % ((1 : Int32) + (p1 &&& (15 : Int32))))), .val (.int ((p5 &&& (2147483647 : Int32)) % ((1 : Int32) + (p1 &&& (15 : Int32))))), .val (.ref b1), .val (.ref b4), .val (.int (Int32.ofNat r8)), .val (.int (Int32.ofNat r13)), .val (.int (Int32.ofNat r13)), .val (.int (Int32.ofNat r18)), .val (.int (Int32.ofNat r18))] [(.int (Int32.ofNat r18))])) (fun t_ kk => XS.iload X20.here hx rfl (hb hby at_163) rfl kk) ?_
      refine own_st (F' := T20.setTop (mkF m 167 #[.val (.int p1), .val (.int p2), .val (.int p3), .val (.int p4), .val (.int p5), .val (.int ((1 : Int32) + (p1 &&& (15 : Int32)))), .val (.int ((p2 &&& (2147483647 : Int32)) % ((1 : Int32) + (p1 &&& (15 : Int32))))), .val (.int ((p3 &&& (2147483647 : Int32)) % ((1 : Int32) + (p1 &&& (15 : Int32))))), .val (.int ((p4 &&& (2147483647 : Int32)) % ((1 : Int32) + (p1 &&& (15 : Int32))))), .val (.int ((p5 &&& (2147483647 : Int32)) % ((1 : Int32) + (p1 &&& (15 : Int32))))), .val (.ref b1), .val (.ref b4), .val (.int (Int32.ofNat r8)), .val (.int (Int32.ofNat r13)), .val (.int (Int32.ofNat r13)), .val (.int (Int32.ofNat r18)), .val (.int (Int32.ofNat r18))] [(.int (Int32.ofNat r18)), (.int (Int32.ofNat r18))])) (fun t_ kk => XS.iload X20.here hx rfl (hb hby at_165) rfl kk) ?_
      refine own_st (F' := T20.setTop (mkF m 170 #[.val (.int p1), .val (.int p2), .val (.int p3), .val (.int p4), .val (.int p5), .val (.int ((1 : Int32) + (p1 &&& (15 : Int32)))), .val (.int ((p2 &&& (2147483647 : Int32)) % ((1 : Int32) + (p1 &&& (15 : Int32))))), .val (.int ((p3 &&& (2147483647 : Int32)) % ((1 : Int32) + (p1 &&& (15 : Int32))))), .val (.int ((p4 &&& (2147483647 : Int32)) % ((1 : Int32) + (p1 &&& (15 : Int32))))), .val (.int ((p5 &&& (2147483647 : Int32)) % ((1 : Int32) + (p1 &&& (15 : Int32))))), .val (.ref b1), .val (.ref b4), .val (.int (Int32.ofNat r8)), .val (.int (Int32.ofNat r13)), .val (.int (Int32.ofNat r13)), .val (.int (Int32.ofNat r18)), .val (.int (Int32.ofNat r18))] [])) (fun t_ kk => XS.icmpNo X20.here hx rfl (hb hby at_167) rfl (teq (rfl : (Int32.ofNat r18) = (Int32.ofNat r18))).2 kk) ?_
      refine own_st (F' := T20.setTop (mkF m 171 #[.val (.int p1), .val (.int p2), .val (.int p3), .val (.int p4), .val (.int p5), .val (.int ((1 : Int32) + (p1 &&& (15 : Int32)))), .val (.int ((p2 &&& (2147483647 : Int32)) % ((1 : Int32) + (p1 &&& (15 : Int32))))), .val (.int ((p3 &&& (2147483647 : Int32)) % ((1 : Int32) + (p1 &&& (15 : Int32))))), .val (.int ((p4 &&& (2147483647 : Int32)) % ((1 : Int32) + (p1 &&& (15 : Int32))))), .val (.int ((p5 &&& (2147483647 : Int32)) % ((1 : Int32) + (p1 &&& (15 : Int32))))), .val (.ref b1), .val (.ref b4), .val (.int (Int32.ofNat r8)), .val (.int (Int32.ofNat r13)), .val (.int (Int32.ofNat r13)), .val (.int (Int32.ofNat r18)), .val (.int (Int32.ofNat r18))] [(.int (1 : Int32))])) (fun t_ kk => XS.iconst X20.here hx rfl (hb hby at_170) kk) ?_
      refine own_st (F' := T20.setTop (mkF m 175 #[.val (.int p1), .val (.int p2), .val (.int p3), .val (.int p4), .val (.int p5), .val (.int ((1 : Int32) + (p1 &&& (15 : Int32)))), .val (.int ((p2 &&& (2147483647 : Int32)) % ((1 : Int32) + (p1 &&& (15 : Int32))))), .val (.int ((p3 &&& (2147483647 : Int32)) % ((1 : Int32) + (p1 &&& (15 : Int32))))), .val (.int ((p4 &&& (2147483647 : Int32)) % ((1 : Int32) + (p1 &&& (15 : Int32))))), .val (.int ((p5 &&& (2147483647 : Int32)) % ((1 : Int32) + (p1 &&& (15 : Int32))))), .val (.ref b1), .val (.ref b4), .val (.int (Int32.ofNat r8)), .val (.int (Int32.ofNat r13)), .val (.int (Int32.ofNat r13)), .val (.int (Int32.ofNat r18)), .val (.int (Int32.ofNat r18))] [(.int (1 : Int32))])) (fun t_ kk => XS.goto X20.here hx rfl (pc0 := 171) (pc' := 175) rfl (hb hby at_171) (by decide) (by decide) kk) ?_
      refine own_fin X20 (some (.int (1 : Int32))) (fun h => by rw [Bd.returns] at h; cases h) Bd.notSynchronized (by decide) (by decide) (fun fs hr => retN X20 hx (t := .boolean) Bd.returns (by simp) (hb hby at_175) hr) ?_
      rw [e20]
      exact ⟨rfl, N20⟩
  · -- pc 81: not ((p3 &&& (2147483647 : Int32)) % ((1 : Int32) + (p1 &&& (15 : Int32)))) = ((p2 &&& (2147483647 : Int32)) % ((1 : Int32) + (p1 &&& (15 : Int32))))
    refine own_st (F' := T8.setTop (mkF m 84 #[.val (.int p1), .val (.int p2), .val (.int p3), .val (.int p4), .val (.int p5), .val (.int ((1 : Int32) + (p1 &&& (15 : Int32)))), .val (.int ((p2 &&& (2147483647 : Int32)) % ((1 : Int32) + (p1 &&& (15 : Int32))))), .val (.int ((p3 &&& (2147483647 : Int32)) % ((1 : Int32) + (p1 &&& (15 : Int32))))), .val (.int ((p4 &&& (2147483647 : Int32)) % ((1 : Int32) + (p1 &&& (15 : Int32))))), .val (.int ((p5 &&& (2147483647 : Int32)) % ((1 : Int32) + (p1 &&& (15 : Int32))))), .val (.ref b1), .val (.ref b4), .val (.int (Int32.ofNat r8)), .unset, .unset, .unset, .unset] [])) (fun t_ kk => XS.icmpNo X8.here hx rfl (hb hby at_81) rfl (feq hc10).1 kk) ?_
    refine own_st (F' := T8.setTop (mkF m 86 #[.val (.int p1), .val (.int p2), .val (.int p3), .val (.int p4), .val (.int p5), .val (.int ((1 : Int32) + (p1 &&& (15 : Int32)))), .val (.int ((p2 &&& (2147483647 : Int32)) % ((1 : Int32) + (p1 &&& (15 : Int32))))), .val (.int ((p3 &&& (2147483647 : Int32)) % ((1 : Int32) + (p1 &&& (15 : Int32))))), .val (.int ((p4 &&& (2147483647 : Int32)) % ((1 : Int32) + (p1 &&& (15 : Int32))))), .val (.int ((p5 &&& (2147483647 : Int32)) % ((1 : Int32) + (p1 &&& (15 : Int32))))), .val (.ref b1), .val (.ref b4), .val (.int (Int32.ofNat r8)), .unset, .unset, .unset, .unset] [(.ref b1)])) (fun t_ kk => XS.aload X8.here hx rfl (hb hby at_84) rfl rfl kk) ?_
    refine own_st (F' := T8.setTop (mkF m 88 #[.val (.int p1), .val (.int p2), .val (.int p3), .val (.int p4), .val (.int p5), .val (.int ((1 : Int32) + (p1 &&& (15 : Int32)))), .val (.int ((p2 &&& (2147483647 : Int32)) % ((1 : Int32) + (p1 &&& (15 : Int32))))), .val (.int ((p3 &&& (2147483647 : Int32)) % ((1 : Int32) + (p1 &&& (15 : Int32))))), .val (.int ((p4 &&& (2147483647 : Int32)) % ((1 : Int32) + (p1 &&& (15 : Int32))))), .val (.int ((p5 &&& (2147483647 : Int32)) % ((1 : Int32) + (p1 &&& (15 : Int32))))), .val (.ref b1), .val (.ref b4), .val (.int (Int32.ofNat r8)), .unset, .unset, .unset, .unset] [(.int (Int32.ofNat r8)), (.ref b1)])) (fun t_ kk => XS.iload X8.here hx rfl (hb hby at_86) rfl kk) ?_
    refine own_st (F' := T8.setTop (mkF m 90 #[.val (.int p1), .val (.int p2), .val (.int p3), .val (.int p4), .val (.int p5), .val (.int ((1 : Int32) + (p1 &&& (15 : Int32)))), .val (.int ((p2 &&& (2147483647 : Int32)) % ((1 : Int32) + (p1 &&& (15 : Int32))))), .val (.int ((p3 &&& (2147483647 : Int32)) % ((1 : Int32) + (p1 &&& (15 : Int32))))), .val (.int ((p4 &&& (2147483647 : Int32)) % ((1 : Int32) + (p1 &&& (15 : Int32))))), .val (.int ((p5 &&& (2147483647 : Int32)) % ((1 : Int32) + (p1 &&& (15 : Int32))))), .val (.ref b1), .val (.ref b4), .val (.int (Int32.ofNat r8)), .unset, .unset, .unset, .unset] [(.int ((p3 &&& (2147483647 : Int32)) % ((1 : Int32) + (p1 &&& (15 : Int32))))), (.int (Int32.ofNat r8)), (.ref b1)])) (fun t_ kk => XS.iload X8.here hx rfl (hb hby at_88) rfl kk) ?_
    have hx_22 : r8 < oCn S8 := ok8.2.1
    have hc_22 : oCn S8 + (oDep ((1 : Int32) + (p1 &&& (15 : Int32)))) ≤ 16 := by have := (show oCn S8 ≤ 6 by have := ok8.2.2.2; have := (show oCn oNew = 2 from rfl); omega); omega
    have hs_22 : oSt S8 < 64 := by have := st8; omega
    refine own_virt X8 hx hZ (y := (⟨"com/example/slackline/slackline/planning/FileOrderSets", "with", "(II)I"⟩ : MethodName)) hown (hw _ (List.mem_of_getElem? (i := 25) rfl)) (hw _ (List.mem_of_getElem? (i := 26) rfl)) (hw _ (List.mem_of_getElem? (i := 28) rfl)) (hw _ (List.mem_of_getElem? (i := 27) rfl)) (hw _ (List.mem_of_getElem? (i := 3) rfl)) (hw _ (List.mem_of_getElem? (i := 29) rfl)) I8.1 (rm3 l Z a0 hw [] b1 lb1 hb1 tb1 sb1 (oDep ((1 : Int32) + (p1 &&& (15 : Int32)))) S8 r8 ((p3 &&& (2147483647 : Int32)) % ((1 : Int32) + (p1 &&& (15 : Int32)))) h8 n0 Z8 I8 hgb1 disb1 ok8.1 hd4 hc_22 hs_22 hx_22) (by decide) (W := 0) (argsL := [(.int (Int32.ofNat r8)), (.int ((p3 &&& (2147483647 : Int32)) % ((1 : Int32) + (p1 &&& (15 : Int32)))))]) (rest := []) (by decide) (by decide) (by rw [hml]; rfl) (lenOf own_pd1 rfl) rfl rfl (Nat.le_of_eq rfl) (hb hby at_90) e8 (by decide) (by decide) ?_
    intro v22 T22 L22 hQ22 X22
    obtain ⟨rfl, N22q, K22, I22⟩ := hQ22
    have N22 := Fr.app N8 N22q
    have Z22 := Nat.le_trans Z8 K22.1
    obtain ⟨h22, e22⟩ : ∃ z, T22.heap = z := ⟨_, rfl⟩
    rw [e22] at K22 I22 Z22
    have I23 := I9.keep K22 (fun z hz => apart.1 z hz)
    have ok22 := oWith_ok ((p3 &&& (2147483647 : Int32)) % ((1 : Int32) + (p1 &&& (15 : Int32)))) (oDep ((1 : Int32) + (p1 &&& (15 : Int32)))) r8 S8 ok8.1 (by have := (show oCn S8 ≤ 6 by have := ok8.2.2.2; have := (show oCn oNew = 2 from rfl); omega); omega) hx_22
    have st22 := (oWith_st ((p3 &&& (2147483647 : Int32)) % ((1 : Int32) + (p1 &&& (15 : Int32)))) (oDep ((1 : Int32) + (p1 &&& (15 : Int32)))) r8 S8).trans st8
    obtain ⟨S22, r22, hSr22⟩ : ∃ S r, oWith ((p3 &&& (2147483647 : Int32)) % ((1 : Int32) + (p1 &&& (15 : Int32)))) (oDep ((1 : Int32) + (p1 &&& (15 : Int32)))) r8 S8 = (S, r) := ⟨_, _, rfl⟩
    rw [hSr22] at I22 ok22 st22
    dsimp only at I22 ok22 st22
    rw [hSr22]
    show OWp p e below s _ _ _ (T22.setTop (mkF m 93 #[.val (.int p1), .val (.int p2), .val (.int p3), .val (.int p4), .val (.int p5), .val (.int ((1 : Int32) + (p1 &&& (15 : Int32)))), .val (.int ((p2 &&& (2147483647 : Int32)) % ((1 : Int32) + (p1 &&& (15 : Int32))))), .val (.int ((p3 &&& (2147483647 : Int32)) % ((1 : Int32) + (p1 &&& (15 : Int32))))), .val (.int ((p4 &&& (2147483647 : Int32)) % ((1 : Int32) + (p1 &&& (15 : Int32))))), .val (.int ((p5 &&& (2147483647 : Int32)) % ((1 : Int32) + (p1 &&& (15 : Int32))))), .val (.ref b1), .val (.ref b4), .val (.int (Int32.ofNat r8)), .unset, .unset, .unset, .unset] [(.int (Int32.ofNat r22))]))
    refine own_st (F' := T22.setTop (mkF m 94 #[.val (.int p1), .val (.int p2), .val (.int p3), .val (.int p4), .val (.int p5), .val (.int ((1 : Int32) + (p1 &&& (15 : Int32)))), .val (.int ((p2 &&& (2147483647 : Int32)) % ((1 : Int32) + (p1 &&& (15 : Int32))))), .val (.int ((p3 &&& (2147483647 : Int32)) % ((1 : Int32) + (p1 &&& (15 : Int32))))), .val (.int ((p4 &&& (2147483647 : Int32)) % ((1 : Int32) + (p1 &&& (15 : Int32))))), .val (.int ((p5 &&& (2147483647 : Int32)) % ((1 : Int32) + (p1 &&& (15 : Int32))))), .val (.ref b1), .val (.ref b4), .val (.int (Int32.ofNat r8)), .unset, .unset, .unset, .unset] [])) (fun t_ kk => XS.pop X22.here hx rfl (hb hby at_93) rfl rfl kk) ?_
    refine own_st (F' := T22.setTop (mkF m 96 #[.val (.int p1), .val (.int p2), .val (.int p3), .val (.int p4), .val (.int p5), .val (.int ((1 : Int32) + (p1 &&& (15 : Int32)))), .val (.int ((p2 &&& (2147483647 : Int32)) % ((1 : Int32) + (p1 &&& (15 : Int32))))), .val (.int ((p3 &&& (2147483647 : Int32)) % ((1 : Int32) + (p1 &&& (15 : Int32))))), .val (.int ((p4 &&& (2147483647 : Int32)) % ((1 : Int32) + (p1 &&& (15 : Int32))))), .val (.int ((p5 &&& (2147483647 : Int32)) % ((1 : Int32) + (p1 &&& (15 : Int32))))), .val (.ref b1), .val (.ref b4), .val (.int (Int32.ofNat r8)), .unset, .unset, .unset, .unset] [(.ref b1)])) (fun t_ kk => XS.aload X22.here hx rfl (hb hby at_94) rfl rfl kk) ?_
    refine own_virt X22 hx hZ (y := (⟨"com/example/slackline/slackline/planning/FileOrderSets", "clear", "()V"⟩ : MethodName)) hown (hw _ (List.mem_of_getElem? (i := 34) rfl)) (hw _ (List.mem_of_getElem? (i := 35) rfl)) (hw _ (List.mem_of_getElem? (i := 37) rfl)) (hw _ (List.mem_of_getElem? (i := 36) rfl)) (hw _ (List.mem_of_getElem? (i := 3) rfl)) (hw _ (List.mem_of_getElem? (i := 38) rfl)) I22.1 (rm5 l Z a0 hw [] b1 lb1 hb1 tb1 sb1 (oDep ((1 : Int32) + (p1 &&& (15 : Int32)))) S22 h22 n0 Z22 I22 hgb1 disb1) (by decide) (W := 0) (argsL := []) (rest := []) (by decide) (by decide) (by rw [hml]; rfl) (lenOf own_pd5 rfl) rfl rfl (Nat.le_of_eq rfl) (hb hby at_96) e22 (by decide) (by decide) ?_
    intro v24 T24 L24 hQ24 X24
    obtain ⟨rfl, N24q, K24, I24⟩ := hQ24
    have N24 := Fr.app N22 N24q
    have Z24 := Nat.le_trans Z22 K24.1
    obtain ⟨h24, e24⟩ : ∃ z, T24.heap = z := ⟨_, rfl⟩
    rw [e24] at K24 I24 Z24
    have I25 := I23.keep K24 (fun z hz => apart.1 z hz)
    show OWp p e below s _ _ _ (T24.setTop (mkF m 99 #[.val (.int p1), .val (.int p2), .val (.int p3), .val (.int p4), .val (.int p5), .val (.int ((1 : Int32) + (p1 &&& (15 : Int32)))), .val (.int ((p2 &&& (2147483647 : Int32)) % ((1 : Int32) + (p1 &&& (15 : Int32))))), .val (.int ((p3 &&& (2147483647 : Int32)) % ((1 : Int32) + (p1 &&& (15 : Int32))))), .val (.int ((p4 &&& (2147483647 : Int32)) % ((1 : Int32) + (p1 &&& (15 : Int32))))), .val (.int ((p5 &&& (2147483647 : Int32)) % ((1 : Int32) + (p1 &&& (15 : Int32))))), .val (.ref b1), .val (.ref b4), .val (.int (Int32.ofNat r8)), .unset, .unset, .unset, .unset] []))
    refine own_st (F' := T24.setTop (mkF m 101 #[.val (.int p1), .val (.int p2), .val (.int p3), .val (.int p4), .val (.int p5), .val (.int ((1 : Int32) + (p1 &&& (15 : Int32)))), .val (.int ((p2 &&& (2147483647 : Int32)) % ((1 : Int32) + (p1 &&& (15 : Int32))))), .val (.int ((p3 &&& (2147483647 : Int32)) % ((1 : Int32) + (p1 &&& (15 : Int32))))), .val (.int ((p4 &&& (2147483647 : Int32)) % ((1 : Int32) + (p1 &&& (15 : Int32))))), .val (.int ((p5 &&& (2147483647 : Int32)) % ((1 : Int32) + (p1 &&& (15 : Int32))))), .val (.ref b1), .val (.ref b4), .val (.int (Int32.ofNat r8)), .unset, .unset, .unset, .unset] [(.ref b1)])) (fun t_ kk => XS.aload X24.here hx rfl (hb hby at_99) rfl rfl kk) ?_
    refine own_st (F' := T24.setTop (mkF m 102 #[.val (.int p1), .val (.int p2), .val (.int p3), .val (.int p4), .val (.int p5), .val (.int ((1 : Int32) + (p1 &&& (15 : Int32)))), .val (.int ((p2 &&& (2147483647 : Int32)) % ((1 : Int32) + (p1 &&& (15 : Int32))))), .val (.int ((p3 &&& (2147483647 : Int32)) % ((1 : Int32) + (p1 &&& (15 : Int32))))), .val (.int ((p4 &&& (2147483647 : Int32)) % ((1 : Int32) + (p1 &&& (15 : Int32))))), .val (.int ((p5 &&& (2147483647 : Int32)) % ((1 : Int32) + (p1 &&& (15 : Int32))))), .val (.ref b1), .val (.ref b4), .val (.int (Int32.ofNat r8)), .unset, .unset, .unset, .unset] [(.int (0 : Int32)), (.ref b1)])) (fun t_ kk => XS.iconst X24.here hx rfl (hb hby at_101) kk) ?_
    refine own_st (F' := T24.setTop (mkF m 104 #[.val (.int p1), .val (.int p2), .val (.int p3), .val (.int p4), .val (.int p5), .val (.int ((1 : Int32) + (p1 &&& (15 : Int32)))), .val (.int ((p2 &&& (2147483647 : Int32)) % ((1 : Int32) + (p1 &&& (15 : Int32))))), .val (.int ((p3 &&& (2147483647 : Int32)) % ((1 : Int32) + (p1 &&& (15 : Int32))))), .val (.int ((p4 &&& (2147483647 : Int32)) % ((1 : Int32) + (p1 &&& (15 : Int32))))), .val (.int ((p5 &&& (2147483647 : Int32)) % ((1 : Int32) + (p1 &&& (15 : Int32))))), .val (.ref b1), .val (.ref b4), .val (.int (Int32.ofNat r8)), .unset, .unset, .unset, .unset] [(.int ((p4 &&& (2147483647 : Int32)) % ((1 : Int32) + (p1 &&& (15 : Int32))))), (.int (0 : Int32)), (.ref b1)])) (fun t_ kk => XS.iload X24.here hx rfl (hb hby at_102) rfl kk) ?_
    have hx_26 : 0 < oCn (oClear S22) := by have := (oClear_inv ok22.1).1; omega
    have hc_26 : oCn (oClear S22) + (oDep ((1 : Int32) + (p1 &&& (15 : Int32)))) ≤ 16 := by have := (show oCn (oClear S22) = 2 from rfl); omega
    have hs_26 : oSt (oClear S22) < 64 := by have := (show oSt (oClear S22) = 2 from congrArg (· + 1) st22); omega
    refine own_virt X24 hx hZ (y := (⟨"com/example/slackline/slackline/planning/FileOrderSets", "with", "(II)I"⟩ : MethodName)) hown (hw _ (List.mem_of_getElem? (i := 25) rfl)) (hw _ (List.mem_of_getElem? (i := 26) rfl)) (hw _ (List.mem_of_getElem? (i := 28) rfl)) (hw _ (List.mem_of_getElem? (i := 27) rfl)) (hw _ (List.mem_of_getElem? (i := 3) rfl)) (hw _ (List.mem_of_getElem? (i := 29) rfl)) I24.1 (rm3 l Z a0 hw [] b1 lb1 hb1 tb1 sb1 (oDep ((1 : Int32) + (p1 &&& (15 : Int32)))) (oClear S22) 0 ((p4 &&& (2147483647 : Int32)) % ((1 : Int32) + (p1 &&& (15 : Int32)))) h24 n0 Z24 I24 hgb1 disb1 (oClear_inv ok22.1) hd4 hc_26 hs_26 hx_26) (by decide) (W := 0) (argsL := [(.int (0 : Int32)), (.int ((p4 &&& (2147483647 : Int32)) % ((1 : Int32) + (p1 &&& (15 : Int32)))))]) (rest := []) (by decide) (by decide) (by rw [hml]; rfl) (lenOf own_pd1 rfl) rfl rfl (Nat.le_of_eq rfl) (hb hby at_104) e24 (by decide) (by decide) ?_
    intro v26 T26 L26 hQ26 X26
    obtain ⟨rfl, N26q, K26, I26⟩ := hQ26
    have N26 := Fr.app N24 N26q
    have Z26 := Nat.le_trans Z24 K26.1
    obtain ⟨h26, e26⟩ : ∃ z, T26.heap = z := ⟨_, rfl⟩
    rw [e26] at K26 I26 Z26
    have I27 := I25.keep K26 (fun z hz => apart.1 z hz)
    have ok26 := oWith_ok ((p4 &&& (2147483647 : Int32)) % ((1 : Int32) + (p1 &&& (15 : Int32)))) (oDep ((1 : Int32) + (p1 &&& (15 : Int32)))) 0 (oClear S22) (oClear_inv ok22.1) (by have := (show oCn (oClear S22) = 2 from rfl); omega) hx_26
    have st26 := (oWith_st ((p4 &&& (2147483647 : Int32)) % ((1 : Int32) + (p1 &&& (15 : Int32)))) (oDep ((1 : Int32) + (p1 &&& (15 : Int32)))) 0 (oClear S22)).trans (show oSt (oClear S22) = 2 from congrArg (· + 1) st22)
    obtain ⟨S26, r26, hSr26⟩ : ∃ S r, oWith ((p4 &&& (2147483647 : Int32)) % ((1 : Int32) + (p1 &&& (15 : Int32)))) (oDep ((1 : Int32) + (p1 &&& (15 : Int32)))) 0 (oClear S22) = (S, r) := ⟨_, _, rfl⟩
    rw [hSr26] at I26 ok26 st26
    dsimp only at I26 ok26 st26
    rw [hSr26]
    show OWp p e below s _ _ _ (T26.setTop (mkF m 107 #[.val (.int p1), .val (.int p2), .val (.int p3), .val (.int p4), .val (.int p5), .val (.int ((1 : Int32) + (p1 &&& (15 : Int32)))), .val (.int ((p2 &&& (2147483647 : Int32)) % ((1 : Int32) + (p1 &&& (15 : Int32))))), .val (.int ((p3 &&& (2147483647 : Int32)) % ((1 : Int32) + (p1 &&& (15 : Int32))))), .val (.int ((p4 &&& (2147483647 : Int32)) % ((1 : Int32) + (p1 &&& (15 : Int32))))), .val (.int ((p5 &&& (2147483647 : Int32)) % ((1 : Int32) + (p1 &&& (15 : Int32))))), .val (.ref b1), .val (.ref b4), .val (.int (Int32.ofNat r8)), .unset, .unset, .unset, .unset] [(.int (Int32.ofNat r26))]))
    refine own_st (F' := T26.setTop (mkF m 109 #[.val (.int p1), .val (.int p2), .val (.int p3), .val (.int p4), .val (.int p5), .val (.int ((1 : Int32) + (p1 &&& (15 : Int32)))), .val (.int ((p2 &&& (2147483647 : Int32)) % ((1 : Int32) + (p1 &&& (15 : Int32))))), .val (.int ((p3 &&& (2147483647 : Int32)) % ((1 : Int32) + (p1 &&& (15 : Int32))))), .val (.int ((p4 &&& (2147483647 : Int32)) % ((1 : Int32) + (p1 &&& (15 : Int32))))), .val (.int ((p5 &&& (2147483647 : Int32)) % ((1 : Int32) + (p1 &&& (15 : Int32))))), .val (.ref b1), .val (.ref b4), .val (.int (Int32.ofNat r8)), .val (.int (Int32.ofNat r26)), .unset, .unset, .unset] [])) (fun t_ kk => XS.istore X26.here hx rfl (hb hby at_107) rfl (l' := #[.val (.int p1), .val (.int p2), .val (.int p3), .val (.int p4), .val (.int p5), .val (.int ((1 : Int32) + (p1 &&& (15 : Int32)))), .val (.int ((p2 &&& (2147483647 : Int32)) % ((1 : Int32) + (p1 &&& (15 : Int32))))), .val (.int ((p3 &&& (2147483647 : Int32)) % ((1 : Int32) + (p1 &&& (15 : Int32))))), .val (.int ((p4 &&& (2147483647 : Int32)) % ((1 : Int32) + (p1 &&& (15 : Int32))))), .val (.int ((p5 &&& (2147483647 : Int32)) % ((1 : Int32) + (p1 &&& (15 : Int32))))), .val (.ref b1), .val (.ref b4), .val (.int (Int32.ofNat r8)), .val (.int (Int32.ofNat r26)), .unset, .unset, .unset]) rfl kk) ?_
    refine own_st (F' := T26.setTop (mkF m 111 #[.val (.int p1), .val (.int p2), .val (.int p3), .val (.int p4), .val (.int p5), .val (.int ((1 : Int32) + (p1 &&& (15 : Int32)))), .val (.int ((p2 &&& (2147483647 : Int32)) % ((1 : Int32) + (p1 &&& (15 : Int32))))), .val (.int ((p3 &&& (2147483647 : Int32)) % ((1 : Int32) + (p1 &&& (15 : Int32))))), .val (.int ((p4 &&& (2147483647 : Int32)) % ((1 : Int32) + (p1 &&& (15 : Int32))))), .val (.int ((p5 &&& (2147483647 : Int32)) % ((1 : Int32) + (p1 &&& (15 : Int32))))), .val (.ref b1), .val (.ref b4), .val (.int (Int32.ofNat r8)), .val (.int (Int32.ofNat r26)), .unset, .unset, .unset] [(.ref b4)])) (fun t_ kk => XS.aload X26.here hx rfl (hb hby at_109) rfl rfl kk) ?_
    refine own_st (F' := T26.setTop (mkF m 112 #[.val (.int p1), .val (.int p2), .val (.int p3), .val (.int p4), .val (.int p5), .val (.int ((1 : Int32) + (p1 &&& (15 : Int32)))), .val (.int ((p2 &&& (2147483647 : Int32)) % ((1 : Int32) + (p1 &&& (15 : Int32))))), .val (.int ((p3 &&& (2147483647 : Int32)) % ((1 : Int32) + (p1 &&& (15 : Int32))))), .val (.int ((p4 &&& (2147483647 : Int32)) % ((1 : Int32) + (p1 &&& (15 : Int32))))), .val (.int ((p5 &&& (2147483647 : Int32)) % ((1 : Int32) + (p1 &&& (15 : Int32))))), .val (.ref b1), .val (.ref b4), .val (.int (Int32.ofNat r8)), .val (.int (Int32.ofNat r26)), .unset, .unset, .unset] [(.int (0 : Int32)), (.ref b4)])) (fun t_ kk => XS.iconst X26.here hx rfl (hb hby at_111) kk) ?_
    refine own_st (F' := T26.setTop (mkF m 114 #[.val (.int p1), .val (.int p2), .val (.int p3), .val (.int p4), .val (.int p5), .val (.int ((1 : Int32) + (p1 &&& (15 : Int32)))), .val (.int ((p2 &&& (2147483647 : Int32)) % ((1 : Int32) + (p1 &&& (15 : Int32))))), .val (.int ((p3 &&& (2147483647 : Int32)) % ((1 : Int32) + (p1 &&& (15 : Int32))))), .val (.int ((p4 &&& (2147483647 : Int32)) % ((1 : Int32) + (p1 &&& (15 : Int32))))), .val (.int ((p5 &&& (2147483647 : Int32)) % ((1 : Int32) + (p1 &&& (15 : Int32))))), .val (.ref b1), .val (.ref b4), .val (.int (Int32.ofNat r8)), .val (.int (Int32.ofNat r26)), .unset, .unset, .unset] [(.int ((p4 &&& (2147483647 : Int32)) % ((1 : Int32) + (p1 &&& (15 : Int32))))), (.int (0 : Int32)), (.ref b4)])) (fun t_ kk => XS.iload X26.here hx rfl (hb hby at_112) rfl kk) ?_
    have hx_28 : 0 < oCn oNew := by have := oNew_inv.1; omega
    have hc_28 : oCn oNew + (oDep ((1 : Int32) + (p1 &&& (15 : Int32)))) ≤ 16 := by have := (show oCn oNew = 2 from rfl); omega
    have hs_28 : oSt oNew < 64 := by have := (show oSt oNew = 1 from rfl); omega
    refine own_virt X26 hx hZ (y := (⟨"com/example/slackline/slackline/planning/FileOrderSets", "with", "(II)I"⟩ : MethodName)) hown (hw _ (List.mem_of_getElem? (i := 25) rfl)) (hw _ (List.mem_of_getElem? (i := 26) rfl)) (hw _ (List.mem_of_getElem? (i := 28) rfl)) (hw _ (List.mem_of_getElem? (i := 27) rfl)) (hw _ (List.mem_of_getElem? (i := 3) rfl)) (hw _ (List.mem_of_getElem? (i := 29) rfl)) I27.1 (rm3 l Z a0 hw [] b4 lb4 hb4 tb4 sb4 (oDep ((1 : Int32) + (p1 &&& (15 : Int32)))) oNew 0 ((p4 &&& (2147483647 : Int32)) % ((1 : Int32) + (p1 &&& (15 : Int32)))) h26 n0 Z26 I27 hgb4 disb4 oNew_inv hd4 hc_28 hs_28 hx_28) (by decide) (W := 0) (argsL := [(.int (0 : Int32)), (.int ((p4 &&& (2147483647 : Int32)) % ((1 : Int32) + (p1 &&& (15 : Int32)))))]) (rest := []) (by decide) (by decide) (by rw [hml]; rfl) (lenOf own_pd1 rfl) rfl rfl (Nat.le_of_eq rfl) (hb hby at_114) e26 (by decide) (by decide) ?_
    intro v28 T28 L28 hQ28 X28
    obtain ⟨rfl, N28q, K28, I28⟩ := hQ28
    have N28 := Fr.app N26 N28q
    have Z28 := Nat.le_trans Z26 K28.1
    obtain ⟨h28, e28⟩ : ∃ z, T28.heap = z := ⟨_, rfl⟩
    rw [e28] at K28 I28 Z28
    have I29 := I26.keep K28 (fun z hz => apart.2 z hz)
    have ok28 := oWith_ok ((p4 &&& (2147483647 : Int32)) % ((1 : Int32) + (p1 &&& (15 : Int32)))) (oDep ((1 : Int32) + (p1 &&& (15 : Int32)))) 0 oNew oNew_inv (by have := (show oCn oNew = 2 from rfl); omega) hx_28
    have st28 := (oWith_st ((p4 &&& (2147483647 : Int32)) % ((1 : Int32) + (p1 &&& (15 : Int32)))) (oDep ((1 : Int32) + (p1 &&& (15 : Int32)))) 0 oNew).trans (show oSt oNew = 1 from rfl)
    have rl28 := oWith_rel ((p4 &&& (2147483647 : Int32)) % ((1 : Int32) + (p1 &&& (15 : Int32)))) (oDep ((1 : Int32) + (p1 &&& (15 : Int32)))) 0 (oClear S22) oNew (oClear_inv ok22.1) (oClear_rel ok22.1) (by have := (show oCn (oClear S22) = 2 from rfl); omega) hx_26
    obtain ⟨S28, r28, hSr28⟩ : ∃ S r, oWith ((p4 &&& (2147483647 : Int32)) % ((1 : Int32) + (p1 &&& (15 : Int32)))) (oDep ((1 : Int32) + (p1 &&& (15 : Int32)))) 0 oNew = (S, r) := ⟨_, _, rfl⟩
    rw [hSr28] at I28 ok28 st28
    dsimp only at I28 ok28 st28
    rw [hSr28]
    rw [hSr28, hSr26] at rl28
    have req28 : r26 = r28 := rl28.1
    have rel28 : ORel S26 S28 := rl28.2
    subst req28
    show OWp p e below s _ _ _ (T28.setTop (mkF m 117 #[.val (.int p1), .val (.int p2), .val (.int p3), .val (.int p4), .val (.int p5), .val (.int ((1 : Int32) + (p1 &&& (15 : Int32)))), .val (.int ((p2 &&& (2147483647 : Int32)) % ((1 : Int32) + (p1 &&& (15 : Int32))))), .val (.int ((p3 &&& (2147483647 : Int32)) % ((1 : Int32) + (p1 &&& (15 : Int32))))), .val (.int ((p4 &&& (2147483647 : Int32)) % ((1 : Int32) + (p1 &&& (15 : Int32))))), .val (.int ((p5 &&& (2147483647 : Int32)) % ((1 : Int32) + (p1 &&& (15 : Int32))))), .val (.ref b1), .val (.ref b4), .val (.int (Int32.ofNat r8)), .val (.int (Int32.ofNat r26)), .unset, .unset, .unset] [(.int (Int32.ofNat r26))]))
    show OWp p e below s _ _ _ (T28.setTop (mkF m 117 #[.val (.int p1), .val (.int p2), .val (.int p3), .val (.int p4), .val (.int p5), .val (.int ((1 : Int32) + (p1 &&& (15 : Int32)))), .val (.int ((p2 &&& (2147483647 : Int32)) % ((1 : Int32) + (p1 &&& (15 : Int32))))), .val (.int ((p3 &&& (2147483647 : Int32)) % ((1 : Int32) + (p1 &&& (15 : Int32))))), .val (.int ((p4 &&& (2147483647 : Int32)) % ((1 : Int32) + (p1 &&& (15 : Int32))))), .val (.int ((p5 &&& (2147483647 : Int32)) % ((1 : Int32) + (p1 &&& (15 : Int32))))), .val (.ref b1), .val (.ref b4), .val (.int (Int32.ofNat r8)), .val (.int (Int32.ofNat r26)), .unset, .unset, .unset] [(.int (Int32.ofNat r26))]))
    refine own_st (F' := T28.setTop (mkF m 119 #[.val (.int p1), .val (.int p2), .val (.int p3), .val (.int p4), .val (.int p5), .val (.int ((1 : Int32) + (p1 &&& (15 : Int32)))), .val (.int ((p2 &&& (2147483647 : Int32)) % ((1 : Int32) + (p1 &&& (15 : Int32))))), .val (.int ((p3 &&& (2147483647 : Int32)) % ((1 : Int32) + (p1 &&& (15 : Int32))))), .val (.int ((p4 &&& (2147483647 : Int32)) % ((1 : Int32) + (p1 &&& (15 : Int32))))), .val (.int ((p5 &&& (2147483647 : Int32)) % ((1 : Int32) + (p1 &&& (15 : Int32))))), .val (.ref b1), .val (.ref b4), .val (.int (Int32.ofNat r8)), .val (.int (Int32.ofNat r26)), .val (.int (Int32.ofNat r26)), .unset, .unset] [])) (fun t_ kk => XS.istore X28.here hx rfl (hb hby at_117) rfl (l' := #[.val (.int p1), .val (.int p2), .val (.int p3), .val (.int p4), .val (.int p5), .val (.int ((1 : Int32) + (p1 &&& (15 : Int32)))), .val (.int ((p2 &&& (2147483647 : Int32)) % ((1 : Int32) + (p1 &&& (15 : Int32))))), .val (.int ((p3 &&& (2147483647 : Int32)) % ((1 : Int32) + (p1 &&& (15 : Int32))))), .val (.int ((p4 &&& (2147483647 : Int32)) % ((1 : Int32) + (p1 &&& (15 : Int32))))), .val (.int ((p5 &&& (2147483647 : Int32)) % ((1 : Int32) + (p1 &&& (15 : Int32))))), .val (.ref b1), .val (.ref b4), .val (.int (Int32.ofNat r8)), .val (.int (Int32.ofNat r26)), .val (.int (Int32.ofNat r26)), .unset, .unset]) rfl kk) ?_
    refine own_st (F' := T28.setTop (mkF m 121 #[.val (.int p1), .val (.int p2), .val (.int p3), .val (.int p4), .val (.int p5), .val (.int ((1 : Int32) + (p1 &&& (15 : Int32)))), .val (.int ((p2 &&& (2147483647 : Int32)) % ((1 : Int32) + (p1 &&& (15 : Int32))))), .val (.int ((p3 &&& (2147483647 : Int32)) % ((1 : Int32) + (p1 &&& (15 : Int32))))), .val (.int ((p4 &&& (2147483647 : Int32)) % ((1 : Int32) + (p1 &&& (15 : Int32))))), .val (.int ((p5 &&& (2147483647 : Int32)) % ((1 : Int32) + (p1 &&& (15 : Int32))))), .val (.ref b1), .val (.ref b4), .val (.int (Int32.ofNat r8)), .val (.int (Int32.ofNat r26)), .val (.int (Int32.ofNat r26)), .unset, .unset] [(.int (Int32.ofNat r26))])) (fun t_ kk => XS.iload X28.here hx rfl (hb hby at_119) rfl kk) ?_
    refine own_st (F' := T28.setTop (mkF m 123 #[.val (.int p1), .val (.int p2), .val (.int p3), .val (.int p4), .val (.int p5), .val (.int ((1 : Int32) + (p1 &&& (15 : Int32)))), .val (.int ((p2 &&& (2147483647 : Int32)) % ((1 : Int32) + (p1 &&& (15 : Int32))))), .val (.int ((p3 &&& (2147483647 : Int32)) % ((1 : Int32) + (p1 &&& (15 : Int32))))), .val (.int ((p4 &&& (2147483647 : Int32)) % ((1 : Int32) + (p1 &&& (15 : Int32))))), .val (.int ((p5 &&& (2147483647 : Int32)) % ((1 : Int32) + (p1 &&& (15 : Int32))))), .val (.ref b1), .val (.ref b4), .val (.int (Int32.ofNat r8)), .val (.int (Int32.ofNat r26)), .val (.int (Int32.ofNat r26)), .val (.int (Int32.ofNat r26)), .unset] [])) (fun t_ kk => XS.istore X28.here hx rfl (hb hby at_121) rfl (l' := #[.val (.int p1), .val (.int p2), .val (.int p3), .val (.int p4), .val (.int p5), .val (.int ((1 : Int32) + (p1 &&& (15 : Int32)))), .val (.int ((p2 &&& (2147483647 : Int32)) % ((1 : Int32) + (p1 &&& (15 : Int32))))), .val (.int ((p3 &&& (2147483647 : Int32)) % ((1 : Int32) + (p1 &&& (15 : Int32))))), .val (.int ((p4 &&& (2147483647 : Int32)) % ((1 : Int32) + (p1 &&& (15 : Int32))))), .val (.int ((p5 &&& (2147483647 : Int32)) % ((1 : Int32) + (p1 &&& (15 : Int32))))), .val (.ref b1), .val (.ref b4), .val (.int (Int32.ofNat r8)), .val (.int (Int32.ofNat r26)), .val (.int (Int32.ofNat r26)), .val (.int (Int32.ofNat r26)), .unset]) rfl kk) ?_
    refine own_st (F' := T28.setTop (mkF m 125 #[.val (.int p1), .val (.int p2), .val (.int p3), .val (.int p4), .val (.int p5), .val (.int ((1 : Int32) + (p1 &&& (15 : Int32)))), .val (.int ((p2 &&& (2147483647 : Int32)) % ((1 : Int32) + (p1 &&& (15 : Int32))))), .val (.int ((p3 &&& (2147483647 : Int32)) % ((1 : Int32) + (p1 &&& (15 : Int32))))), .val (.int ((p4 &&& (2147483647 : Int32)) % ((1 : Int32) + (p1 &&& (15 : Int32))))), .val (.int ((p5 &&& (2147483647 : Int32)) % ((1 : Int32) + (p1 &&& (15 : Int32))))), .val (.ref b1), .val (.ref b4), .val (.int (Int32.ofNat r8)), .val (.int (Int32.ofNat r26)), .val (.int (Int32.ofNat r26)), .val (.int (Int32.ofNat r26)), .unset] [(.int (Int32.ofNat r26))])) (fun t_ kk => XS.iload X28.here hx rfl (hb hby at_123) rfl kk) ?_
    refine own_st (F' := T28.setTop (mkF m 127 #[.val (.int p1), .val (.int p2), .val (.int p3), .val (.int p4), .val (.int p5), .val (.int ((1 : Int32) + (p1 &&& (15 : Int32)))), .val (.int ((p2 &&& (2147483647 : Int32)) % ((1 : Int32) + (p1 &&& (15 : Int32))))), .val (.int ((p3 &&& (2147483647 : Int32)) % ((1 : Int32) + (p1 &&& (15 : Int32))))), .val (.int ((p4 &&& (2147483647 : Int32)) % ((1 : Int32) + (p1 &&& (15 : Int32))))), .val (.int ((p5 &&& (2147483647 : Int32)) % ((1 : Int32) + (p1 &&& (15 : Int32))))), .val (.ref b1), .val (.ref b4), .val (.int (Int32.ofNat r8)), .val (.int (Int32.ofNat r26)), .val (.int (Int32.ofNat r26)), .val (.int (Int32.ofNat r26)), .val (.int (Int32.ofNat r26))] [])) (fun t_ kk => XS.istore X28.here hx rfl (hb hby at_125) rfl (l' := #[.val (.int p1), .val (.int p2), .val (.int p3), .val (.int p4), .val (.int p5), .val (.int ((1 : Int32) + (p1 &&& (15 : Int32)))), .val (.int ((p2 &&& (2147483647 : Int32)) % ((1 : Int32) + (p1 &&& (15 : Int32))))), .val (.int ((p3 &&& (2147483647 : Int32)) % ((1 : Int32) + (p1 &&& (15 : Int32))))), .val (.int ((p4 &&& (2147483647 : Int32)) % ((1 : Int32) + (p1 &&& (15 : Int32))))), .val (.int ((p5 &&& (2147483647 : Int32)) % ((1 : Int32) + (p1 &&& (15 : Int32))))), .val (.ref b1), .val (.ref b4), .val (.int (Int32.ofNat r8)), .val (.int (Int32.ofNat r26)), .val (.int (Int32.ofNat r26)), .val (.int (Int32.ofNat r26)), .val (.int (Int32.ofNat r26))]) rfl kk) ?_
    refine own_st (F' := T28.setTop (mkF m 129 #[.val (.int p1), .val (.int p2), .val (.int p3), .val (.int p4), .val (.int p5), .val (.int ((1 : Int32) + (p1 &&& (15 : Int32)))), .val (.int ((p2 &&& (2147483647 : Int32)) % ((1 : Int32) + (p1 &&& (15 : Int32))))), .val (.int ((p3 &&& (2147483647 : Int32)) % ((1 : Int32) + (p1 &&& (15 : Int32))))), .val (.int ((p4 &&& (2147483647 : Int32)) % ((1 : Int32) + (p1 &&& (15 : Int32))))), .val (.int ((p5 &&& (2147483647 : Int32)) % ((1 : Int32) + (p1 &&& (15 : Int32))))), .val (.ref b1), .val (.ref b4), .val (.int (Int32.ofNat r8)), .val (.int (Int32.ofNat r26)), .val (.int (Int32.ofNat r26)), .val (.int (Int32.ofNat r26)), .val (.int (Int32.ofNat r26))] [(.int ((p5 &&& (2147483647 : Int32)) % ((1 : Int32) + (p1 &&& (15 : Int32)))))])) (fun t_ kk => XS.iload X28.here hx rfl (hb hby at_127) rfl kk) ?_
    refine own_st (F' := T28.setTop (mkF m 131 #[.val (.int p1), .val (.int p2), .val (.int p3), .val (.int p4), .val (.int p5), .val (.int ((1 : Int32) + (p1 &&& (15 : Int32)))), .val (.int ((p2 &&& (2147483647 : Int32)) % ((1 : Int32) + (p1 &&& (15 : Int32))))), .val (.int ((p3 &&& (2147483647 : Int32)) % ((1 : Int32) + (p1 &&& (15 : Int32))))), .val (.int ((p4 &&& (2147483647 : Int32)) % ((1 : Int32) + (p1 &&& (15 : Int32))))), .val (.int ((p5 &&& (2147483647 : Int32)) % ((1 : Int32) + (p1 &&& (15 : Int32))))), .val (.ref b1), .val (.ref b4), .val (.int (Int32.ofNat r8)), .val (.int (Int32.ofNat r26)), .val (.int (Int32.ofNat r26)), .val (.int (Int32.ofNat r26)), .val (.int (Int32.ofNat r26))] [(.int ((p4 &&& (2147483647 : Int32)) % ((1 : Int32) + (p1 &&& (15 : Int32))))), (.int ((p5 &&& (2147483647 : Int32)) % ((1 : Int32) + (p1 &&& (15 : Int32)))))])) (fun t_ kk => XS.iload X28.here hx rfl (hb hby at_129) rfl kk) ?_
    by_cases hc30 : ((p5 &&& (2147483647 : Int32)) % ((1 : Int32) + (p1 &&& (15 : Int32)))) = ((p4 &&& (2147483647 : Int32)) % ((1 : Int32) + (p1 &&& (15 : Int32))))
    · -- pc 131: ((p5 &&& (2147483647 : Int32)) % ((1 : Int32) + (p1 &&& (15 : Int32)))) = ((p4 &&& (2147483647 : Int32)) % ((1 : Int32) + (p1 &&& (15 : Int32))))
      refine own_st (F' := T28.setTop (mkF m 156 #[.val (.int p1), .val (.int p2), .val (.int p3), .val (.int p4), .val (.int p5), .val (.int ((1 : Int32) + (p1 &&& (15 : Int32)))), .val (.int ((p2 &&& (2147483647 : Int32)) % ((1 : Int32) + (p1 &&& (15 : Int32))))), .val (.int ((p3 &&& (2147483647 : Int32)) % ((1 : Int32) + (p1 &&& (15 : Int32))))), .val (.int ((p4 &&& (2147483647 : Int32)) % ((1 : Int32) + (p1 &&& (15 : Int32))))), .val (.int ((p5 &&& (2147483647 : Int32)) % ((1 : Int32) + (p1 &&& (15 : Int32))))), .val (.ref b1), .val (.ref b4), .val (.int (Int32.ofNat r8)), .val (.int (Int32.ofNat r26)), .val (.int (Int32.ofNat r26)), .val (.int (Int32.ofNat r26)), .val (.int (Int32.ofNat r26))] [])) (fun t_ kk => XS.icmpYes X28.here hx rfl (pc0 := 131) (pc' := 156) rfl (hb hby at_131) rfl (teq hc30).1 (by decide) (by decide) kk) ?_
      refine own_st (F' := T28.setTop (mkF m 158 #[.val (.int p1), .val (.int p2), .val (.int p3), .val (.int p4), .val (.int p5), .val (.int ((1 : Int32) + (p1 &&& (15 : Int32)))), .val (.int ((p2 &&& (2147483647 : Int32)) % ((1 : Int32) + (p1 &&& (15 : Int32))))), .val (.int ((p3 &&& (2147483647 : Int32)) % ((1 : Int32) + (p1 &&& (15 : Int32))))), .val (.int ((p4 &&& (2147483647 : Int32)) % ((1 : Int32) + (p1 &&& (15 : Int32))))), .val (.int ((p5 &&& (2147483647 : Int32)) % ((1 : Int32) + (p1 &&& (15 : Int32))))), .val (.ref b1), .val (.ref b4), .val (.int (Int32.ofNat r8)), .val (.int (Int32.ofNat r26)), .val (.int (Int32.ofNat r26)), .val (.int (Int32.ofNat r26)), .val (.int (Int32.ofNat r26))] [(.int (Int32.ofNat r26))])) (fun t_ kk => XS.iload X28.here hx rfl (hb hby at_156) rfl kk) ?_
      refine own_st (F' := T28.setTop (mkF m 160 #[.val (.int p1), .val (.int p2), .val (.int p3), .val (.int p4), .val (.int p5), .val (.int ((1 : Int32) + (p1 &&& (15 : Int32)))), .val (.int ((p2 &&& (2147483647 : Int32)) % ((1 : Int32) + (p1 &&& (15 : Int32))))), .val (.int ((p3 &&& (2147483647 : Int32)) % ((1 : Int32) + (p1 &&& (15 : Int32))))), .val (.int ((p4 &&& (2147483647 : Int32)) % ((1 : Int32) + (p1 &&& (15 : Int32))))), .val (.int ((p5 &&& (2147483647 : Int32)) % ((1 : Int32) + (p1 &&& (15 : Int32))))), .val (.ref b1), .val (.ref b4), .val (.int (Int32.ofNat r8)), .val (.int (Int32.ofNat r26)), .val (.int (Int32.ofNat r26)), .val (.int (Int32.ofNat r26)), .val (.int (Int32.ofNat r26))] [(.int (Int32.ofNat r26)), (.int (Int32.ofNat r26))])) (fun t_ kk => XS.iload X28.here hx rfl (hb hby at_158) rfl kk) ?_
      refine own_st (F' := T28.setTop (mkF m 163 #[.val (.int p1), .val (.int p2), .val (.int p3), .val (.int p4), .val (.int p5), .val (.int ((1 : Int32) + (p1 &&& (15 : Int32)))), .val (.int ((p2 &&& (2147483647 : Int32)) % ((1 : Int32) + (p1 &&& (15 : Int32))))), .val (.int ((p3 &&& (2147483647 : Int32)) % ((1 : Int32) + (p1 &&& (15 : Int32))))), .val (.int ((p4 &&& (2147483647 : Int32)) % ((1 : Int32) + (p1 &&& (15 : Int32))))), .val (.int ((p5 &&& (2147483647 : Int32)) % ((1 : Int32) + (p1 &&& (15 : Int32))))), .val (.ref b1), .val (.ref b4), .val (.int (Int32.ofNat r8)), .val (.int (Int32.ofNat r26)), .val (.int (Int32.ofNat r26)), .val (.int (Int32.ofNat r26)), .val (.int (Int32.ofNat r26))] [])) (fun t_ kk => XS.icmpNo X28.here hx rfl (hb hby at_160) rfl (teq (rfl : (Int32.ofNat r26) = (Int32.ofNat r26))).2 kk) ?_
      refine own_st (F' := T28.setTop (mkF m 165 #[.val (.int p1), .val (.int p2), .val (.int p3), .val (.int p4), .val (.int p5), .val (.int ((1 : Int32) + (p1 &&& (15 : Int32)))), .val (.int ((p2 &&& (2147483647 : Int32)) % ((1 : Int32) + (p1 &&& (15 : Int32))))), .val (.int ((p3 &&& (2147483647 : Int32)) % ((1 : Int32) + (p1 &&& (15 : Int32))))), .val (.int ((p4 &&& (2147483647 : Int32)) % ((1 : Int32) + (p1 &&& (15 : Int32))))), .val (.int ((p5 &&& (2147483647 : Int32)) % ((1 : Int32) + (p1 &&& (15 : Int32))))), .val (.ref b1), .val (.ref b4), .val (.int (Int32.ofNat r8)), .val (.int (Int32.ofNat r26)), .val (.int (Int32.ofNat r26)), .val (.int (Int32.ofNat r26)), .val (.int (Int32.ofNat r26))] [(.int (Int32.ofNat r26))])) (fun t_ kk => XS.iload X28.here hx rfl (hb hby at_163) rfl kk) ?_
      refine own_st (F' := T28.setTop (mkF m 167 #[.val (.int p1), .val (.int p2), .val (.int p3), .val (.int p4), .val (.int p5), .val (.int ((1 : Int32) + (p1 &&& (15 : Int32)))), .val (.int ((p2 &&& (2147483647 : Int32)) % ((1 : Int32) + (p1 &&& (15 : Int32))))), .val (.int ((p3 &&& (2147483647 : Int32)) % ((1 : Int32) + (p1 &&& (15 : Int32))))), .val (.int ((p4 &&& (2147483647 : Int32)) % ((1 : Int32) + (p1 &&& (15 : Int32))))), .val (.int ((p5 &&& (2147483647 : Int32)) % ((1 : Int32) + (p1 &&& (15 : Int32))))), .val (.ref b1), .val (.ref b4), .val (.int (Int32.ofNat r8)), .val (.int (Int32.ofNat r26)), .val (.int (Int32.ofNat r26)), .val (.int (Int32.ofNat r26)), .val (.int (Int32.ofNat r26))] [(.int (Int32.ofNat r26)), (.int (Int32.ofNat r26))])) (fun t_ kk => XS.iload X28.here hx rfl (hb hby at_165) rfl kk) ?_
      refine own_st (F' := T28.setTop (mkF m 170 #[.val (.int p1), .val (.int p2), .val (.int p3), .val (.int p4), .val (.int p5), .val (.int ((1 : Int32) + (p1 &&& (15 : Int32)))), .val (.int ((p2 &&& (2147483647 : Int32)) % ((1 : Int32) + (p1 &&& (15 : Int32))))), .val (.int ((p3 &&& (2147483647 : Int32)) % ((1 : Int32) + (p1 &&& (15 : Int32))))), .val (.int ((p4 &&& (2147483647 : Int32)) % ((1 : Int32) + (p1 &&& (15 : Int32))))), .val (.int ((p5 &&& (2147483647 : Int32)) % ((1 : Int32) + (p1 &&& (15 : Int32))))), .val (.ref b1), .val (.ref b4), .val (.int (Int32.ofNat r8)), .val (.int (Int32.ofNat r26)), .val (.int (Int32.ofNat r26)), .val (.int (Int32.ofNat r26)), .val (.int (Int32.ofNat r26))] [])) (fun t_ kk => XS.icmpNo X28.here hx rfl (hb hby at_167) rfl (teq (rfl : (Int32.ofNat r26) = (Int32.ofNat r26))).2 kk) ?_
      refine own_st (F' := T28.setTop (mkF m 171 #[.val (.int p1), .val (.int p2), .val (.int p3), .val (.int p4), .val (.int p5), .val (.int ((1 : Int32) + (p1 &&& (15 : Int32)))), .val (.int ((p2 &&& (2147483647 : Int32)) % ((1 : Int32) + (p1 &&& (15 : Int32))))), .val (.int ((p3 &&& (2147483647 : Int32)) % ((1 : Int32) + (p1 &&& (15 : Int32))))), .val (.int ((p4 &&& (2147483647 : Int32)) % ((1 : Int32) + (p1 &&& (15 : Int32))))), .val (.int ((p5 &&& (2147483647 : Int32)) % ((1 : Int32) + (p1 &&& (15 : Int32))))), .val (.ref b1), .val (.ref b4), .val (.int (Int32.ofNat r8)), .val (.int (Int32.ofNat r26)), .val (.int (Int32.ofNat r26)), .val (.int (Int32.ofNat r26)), .val (.int (Int32.ofNat r26))] [(.int (1 : Int32))])) (fun t_ kk => XS.iconst X28.here hx rfl (hb hby at_170) kk) ?_
      refine own_st (F' := T28.setTop (mkF m 175 #[.val (.int p1), .val (.int p2), .val (.int p3), .val (.int p4), .val (.int p5), .val (.int ((1 : Int32) + (p1 &&& (15 : Int32)))), .val (.int ((p2 &&& (2147483647 : Int32)) % ((1 : Int32) + (p1 &&& (15 : Int32))))), .val (.int ((p3 &&& (2147483647 : Int32)) % ((1 : Int32) + (p1 &&& (15 : Int32))))), .val (.int ((p4 &&& (2147483647 : Int32)) % ((1 : Int32) + (p1 &&& (15 : Int32))))), .val (.int ((p5 &&& (2147483647 : Int32)) % ((1 : Int32) + (p1 &&& (15 : Int32))))), .val (.ref b1), .val (.ref b4), .val (.int (Int32.ofNat r8)), .val (.int (Int32.ofNat r26)), .val (.int (Int32.ofNat r26)), .val (.int (Int32.ofNat r26)), .val (.int (Int32.ofNat r26))] [(.int (1 : Int32))])) (fun t_ kk => XS.goto X28.here hx rfl (pc0 := 171) (pc' := 175) rfl (hb hby at_171) (by decide) (by decide) kk) ?_
      refine own_fin X28 (some (.int (1 : Int32))) (fun h => by rw [Bd.returns] at h; cases h) Bd.notSynchronized (by decide) (by decide) (fun fs hr => retN X28 hx (t := .boolean) Bd.returns (by simp) (hb hby at_175) hr) ?_
      rw [e28]
      exact ⟨rfl, N28⟩
    · -- pc 131: not ((p5 &&& (2147483647 : Int32)) % ((1 : Int32) + (p1 &&& (15 : Int32)))) = ((p4 &&& (2147483647 : Int32)) % ((1 : Int32) + (p1 &&& (15 : Int32))))
      refine own_st (F' := T28.setTop (mkF m 134 #[.val (.int p1), .val (.int p2), .val (.int p3), .val (.int p4), .val (.int p5), .val (.int ((1 : Int32) + (p1 &&& (15 : Int32)))), .val (.int ((p2 &&& (2147483647 : Int32)) % ((1 : Int32) + (p1 &&& (15 : Int32))))), .val (.int ((p3 &&& (2147483647 : Int32)) % ((1 : Int32) + (p1 &&& (15 : Int32))))), .val (.int ((p4 &&& (2147483647 : Int32)) % ((1 : Int32) + (p1 &&& (15 : Int32))))), .val (.int ((p5 &&& (2147483647 : Int32)) % ((1 : Int32) + (p1 &&& (15 : Int32))))), .val (.ref b1), .val (.ref b4), .val (.int (Int32.ofNat r8)), .val (.int (Int32.ofNat r26)), .val (.int (Int32.ofNat r26)), .val (.int (Int32.ofNat r26)), .val (.int (Int32.ofNat r26))] [])) (fun t_ kk => XS.icmpNo X28.here hx rfl (hb hby at_131) rfl (feq hc30).1 kk) ?_
      refine own_st (F' := T28.setTop (mkF m 136 #[.val (.int p1), .val (.int p2), .val (.int p3), .val (.int p4), .val (.int p5), .val (.int ((1 : Int32) + (p1 &&& (15 : Int32)))), .val (.int ((p2 &&& (2147483647 : Int32)) % ((1 : Int32) + (p1 &&& (15 : Int32))))), .val (.int ((p3 &&& (2147483647 : Int32)) % ((1 : Int32) + (p1 &&& (15 : Int32))))), .val (.int ((p4 &&& (2147483647 : Int32)) % ((1 : Int32) + (p1 &&& (15 : Int32))))), .val (.int ((p5 &&& (2147483647 : Int32)) % ((1 : Int32) + (p1 &&& (15 : Int32))))), .val (.ref b1), .val (.ref b4), .val (.int (Int32.ofNat r8)), .val (.int (Int32.ofNat r26)), .val (.int (Int32.ofNat r26)), .val (.int (Int32.ofNat r26)), .val (.int (Int32.ofNat r26))] [(.ref b1)])) (fun t_ kk => XS.aload X28.here hx rfl (hb hby at_134) rfl rfl kk) ?_
      refine own_st (F' := T28.setTop (mkF m 138 #[.val (.int p1), .val (.int p2), .val (.int p3), .val (.int p4), .val (.int p5), .val (.int ((1 : Int32) + (p1 &&& (15 : Int32)))), .val (.int ((p2 &&& (2147483647 : Int32)) % ((1 : Int32) + (p1 &&& (15 : Int32))))), .val (.int ((p3 &&& (2147483647 : Int32)) % ((1 : Int32) + (p1 &&& (15 : Int32))))), .val (.int ((p4 &&& (2147483647 : Int32)) % ((1 : Int32) + (p1 &&& (15 : Int32))))), .val (.int ((p5 &&& (2147483647 : Int32)) % ((1 : Int32) + (p1 &&& (15 : Int32))))), .val (.ref b1), .val (.ref b4), .val (.int (Int32.ofNat r8)), .val (.int (Int32.ofNat r26)), .val (.int (Int32.ofNat r26)), .val (.int (Int32.ofNat r26)), .val (.int (Int32.ofNat r26))] [(.int (Int32.ofNat r26)), (.ref b1)])) (fun t_ kk => XS.iload X28.here hx rfl (hb hby at_136) rfl kk) ?_
      refine own_st (F' := T28.setTop (mkF m 140 #[.val (.int p1), .val (.int p2), .val (.int p3), .val (.int p4), .val (.int p5), .val (.int ((1 : Int32) + (p1 &&& (15 : Int32)))), .val (.int ((p2 &&& (2147483647 : Int32)) % ((1 : Int32) + (p1 &&& (15 : Int32))))), .val (.int ((p3 &&& (2147483647 : Int32)) % ((1 : Int32) + (p1 &&& (15 : Int32))))), .val (.int ((p4 &&& (2147483647 : Int32)) % ((1 : Int32) + (p1 &&& (15 : Int32))))), .val (.int ((p5 &&& (2147483647 : Int32)) % ((1 : Int32) + (p1 &&& (15 : Int32))))), .val (.ref b1), .val (.ref b4), .val (.int (Int32.ofNat r8)), .val (.int (Int32.ofNat r26)), .val (.int (Int32.ofNat r26)), .val (.int (Int32.ofNat r26)), .val (.int (Int32.ofNat r26))] [(.int ((p5 &&& (2147483647 : Int32)) % ((1 : Int32) + (p1 &&& (15 : Int32))))), (.int (Int32.ofNat r26)), (.ref b1)])) (fun t_ kk => XS.iload X28.here hx rfl (hb hby at_138) rfl kk) ?_
      have hx_31 : r26 < oCn S26 := ok26.2.1
      have hc_31 : oCn S26 + (oDep ((1 : Int32) + (p1 &&& (15 : Int32)))) ≤ 16 := by have := (show oCn S26 ≤ 6 by have := ok26.2.2.2; have := (show oCn (oClear S22) = 2 from rfl); omega); omega
      have hs_31 : oSt S26 < 64 := by have := st26; omega
      refine own_virt X28 hx hZ (y := (⟨"com/example/slackline/slackline/planning/FileOrderSets", "with", "(II)I"⟩ : MethodName)) hown (hw _ (List.mem_of_getElem? (i := 25) rfl)) (hw _ (List.mem_of_getElem? (i := 26) rfl)) (hw _ (List.mem_of_getElem? (i := 28) rfl)) (hw _ (List.mem_of_getElem? (i := 27) rfl)) (hw _ (List.mem_of_getElem? (i := 3) rfl)) (hw _ (List.mem_of_getElem? (i := 29) rfl)) I29.1 (rm3 l Z a0 hw [] b1 lb1 hb1 tb1 sb1 (oDep ((1 : Int32) + (p1 &&& (15 : Int32)))) S26 r26 ((p5 &&& (2147483647 : Int32)) % ((1 : Int32) + (p1 &&& (15 : Int32)))) h28 n0 Z28 I29 hgb1 disb1 ok26.1 hd4 hc_31 hs_31 hx_31) (by decide) (W := 0) (argsL := [(.int (Int32.ofNat r26)), (.int ((p5 &&& (2147483647 : Int32)) % ((1 : Int32) + (p1 &&& (15 : Int32)))))]) (rest := []) (by decide) (by decide) (by rw [hml]; rfl) (lenOf own_pd1 rfl) rfl rfl (Nat.le_of_eq rfl) (hb hby at_140) e28 (by decide) (by decide) ?_
      intro v31 T31 L31 hQ31 X31
      obtain ⟨rfl, N31q, K31, I31⟩ := hQ31
      have N31 := Fr.app N28 N31q
      have Z31 := Nat.le_trans Z28 K31.1
      obtain ⟨h31, e31⟩ : ∃ z, T31.heap = z := ⟨_, rfl⟩
      rw [e31] at K31 I31 Z31
      have I32 := I28.keep K31 (fun z hz => apart.1 z hz)
      have ok31 := oWith_ok ((p5 &&& (2147483647 : Int32)) % ((1 : Int32) + (p1 &&& (15 : Int32)))) (oDep ((1 : Int32) + (p1 &&& (15 : Int32)))) r26 S26 ok26.1 (by have := (show oCn S26 ≤ 6 by have := ok26.2.2.2; have := (show oCn (oClear S22) = 2 from rfl); omega); omega) hx_31
      have st31 := (oWith_st ((p5 &&& (2147483647 : Int32)) % ((1 : Int32) + (p1 &&& (15 : Int32)))) (oDep ((1 : Int32) + (p1 &&& (15 : Int32)))) r26 S26).trans st26
      obtain ⟨S31, r31, hSr31⟩ : ∃ S r, oWith ((p5 &&& (2147483647 : Int32)) % ((1 : Int32) + (p1 &&& (15 : Int32)))) (oDep ((1 : Int32) + (p1 &&& (15 : Int32)))) r26 S26 = (S, r) := ⟨_, _, rfl⟩
      rw [hSr31] at I31 ok31 st31
      dsimp only at I31 ok31 st31
      rw [hSr31]
      show OWp p e below s _ _ _ (T31.setTop (mkF m 143 #[.val (.int p1), .val (.int p2), .val (.int p3), .val (.int p4), .val (.int p5), .val (.int ((1 : Int32) + (p1 &&& (15 : Int32)))), .val (.int ((p2 &&& (2147483647 : Int32)) % ((1 : Int32) + (p1 &&& (15 : Int32))))), .val (.int ((p3 &&& (2147483647 : Int32)) % ((1 : Int32) + (p1 &&& (15 : Int32))))), .val (.int ((p4 &&& (2147483647 : Int32)) % ((1 : Int32) + (p1 &&& (15 : Int32))))), .val (.int ((p5 &&& (2147483647 : Int32)) % ((1 : Int32) + (p1 &&& (15 : Int32))))), .val (.ref b1), .val (.ref b4), .val (.int (Int32.ofNat r8)), .val (.int (Int32.ofNat r26)), .val (.int (Int32.ofNat r26)), .val (.int (Int32.ofNat r26)), .val (.int (Int32.ofNat r26))] [(.int (Int32.ofNat r31))]))
      refine own_st (F' := T31.setTop (mkF m 145 #[.val (.int p1), .val (.int p2), .val (.int p3), .val (.int p4), .val (.int p5), .val (.int ((1 : Int32) + (p1 &&& (15 : Int32)))), .val (.int ((p2 &&& (2147483647 : Int32)) % ((1 : Int32) + (p1 &&& (15 : Int32))))), .val (.int ((p3 &&& (2147483647 : Int32)) % ((1 : Int32) + (p1 &&& (15 : Int32))))), .val (.int ((p4 &&& (2147483647 : Int32)) % ((1 : Int32) + (p1 &&& (15 : Int32))))), .val (.int ((p5 &&& (2147483647 : Int32)) % ((1 : Int32) + (p1 &&& (15 : Int32))))), .val (.ref b1), .val (.ref b4), .val (.int (Int32.ofNat r8)), .val (.int (Int32.ofNat r26)), .val (.int (Int32.ofNat r26)), .val (.int (Int32.ofNat r31)), .val (.int (Int32.ofNat r26))] [])) (fun t_ kk => XS.istore X31.here hx rfl (hb hby at_143) rfl (l' := #[.val (.int p1), .val (.int p2), .val (.int p3), .val (.int p4), .val (.int p5), .val (.int ((1 : Int32) + (p1 &&& (15 : Int32)))), .val (.int ((p2 &&& (2147483647 : Int32)) % ((1 : Int32) + (p1 &&& (15 : Int32))))), .val (.int ((p3 &&& (2147483647 : Int32)) % ((1 : Int32) + (p1 &&& (15 : Int32))))), .val (.int ((p4 &&& (2147483647 : Int32)) % ((1 : Int32) + (p1 &&& (15 : Int32))))), .val (.int ((p5 &&& (2147483647 : Int32)) % ((1 : Int32) + (p1 &&& (15 : Int32))))), .val (.ref b1), .val (.ref b4), .val (.int (Int32.ofNat r8)), .val (.int (Int32.ofNat r26)), .val (.int (Int32.ofNat r26)), .val (.int (Int32.ofNat r31)), .val (.int (Int32.ofNat r26))]) rfl kk) ?_
      refine own_st (F' := T31.setTop (mkF m 147 #[.val (.int p1), .val (.int p2), .val (.int p3), .val (.int p4), .val (.int p5), .val (.int ((1 : Int32) + (p1 &&& (15 : Int32)))), .val (.int ((p2 &&& (2147483647 : Int32)) % ((1 : Int32) + (p1 &&& (15 : Int32))))), .val (.int ((p3 &&& (2147483647 : Int32)) % ((1 : Int32) + (p1 &&& (15 : Int32))))), .val (.int ((p4 &&& (2147483647 : Int32)) % ((1 : Int32) + (p1 &&& (15 : Int32))))), .val (.int ((p5 &&& (2147483647 : Int32)) % ((1 : Int32) + (p1 &&& (15 : Int32))))), .val (.ref b1), .val (.ref b4), .val (.int (Int32.ofNat r8)), .val (.int (Int32.ofNat r26)), .val (.int (Int32.ofNat r26)), .val (.int (Int32.ofNat r31)), .val (.int (Int32.ofNat r26))] [(.ref b4)])) (fun t_ kk => XS.aload X31.here hx rfl (hb hby at_145) rfl rfl kk) ?_
      refine own_st (F' := T31.setTop (mkF m 149 #[.val (.int p1), .val (.int p2), .val (.int p3), .val (.int p4), .val (.int p5), .val (.int ((1 : Int32) + (p1 &&& (15 : Int32)))), .val (.int ((p2 &&& (2147483647 : Int32)) % ((1 : Int32) + (p1 &&& (15 : Int32))))), .val (.int ((p3 &&& (2147483647 : Int32)) % ((1 : Int32) + (p1 &&& (15 : Int32))))), .val (.int ((p4 &&& (2147483647 : Int32)) % ((1 : Int32) + (p1 &&& (15 : Int32))))), .val (.int ((p5 &&& (2147483647 : Int32)) % ((1 : Int32) + (p1 &&& (15 : Int32))))), .val (.ref b1), .val (.ref b4), .val (.int (Int32.ofNat r8)), .val (.int (Int32.ofNat r26)), .val (.int (Int32.ofNat r26)), .val (.int (Int32.ofNat r31)), .val (.int (Int32.ofNat r26))] [(.int (Int32.ofNat r26)), (.ref b4)])) (fun t_ kk => XS.iload X31.here hx rfl (hb hby at_147) rfl kk) ?_
      refine own_st (F' := T31.setTop (mkF m 151 #[.val (.int p1), .val (.int p2), .val (.int p3), .val (.int p4), .val (.int p5), .val (.int ((1 : Int32) + (p1 &&& (15 : Int32)))), .val (.int ((p2 &&& (2147483647 : Int32)) % ((1 : Int32) + (p1 &&& (15 : Int32))))), .val (.int ((p3 &&& (2147483647 : Int32)) % ((1 : Int32) + (p1 &&& (15 : Int32))))), .val (.int ((p4 &&& (2147483647 : Int32)) % ((1 : Int32) + (p1 &&& (15 : Int32))))), .val (.int ((p5 &&& (2147483647 : Int32)) % ((1 : Int32) + (p1 &&& (15 : Int32))))), .val (.ref b1), .val (.ref b4), .val (.int (Int32.ofNat r8)), .val (.int (Int32.ofNat r26)), .val (.int (Int32.ofNat r26)), .val (.int (Int32.ofNat r31)), .val (.int (Int32.ofNat r26))] [(.int ((p5 &&& (2147483647 : Int32)) % ((1 : Int32) + (p1 &&& (15 : Int32))))), (.int (Int32.ofNat r26)), (.ref b4)])) (fun t_ kk => XS.iload X31.here hx rfl (hb hby at_149) rfl kk) ?_
      have hx_33 : r26 < oCn S28 := ok28.2.1
      have hc_33 : oCn S28 + (oDep ((1 : Int32) + (p1 &&& (15 : Int32)))) ≤ 16 := by have := (show oCn S28 ≤ 6 by have := ok28.2.2.2; have := (show oCn oNew = 2 from rfl); omega); omega
      have hs_33 : oSt S28 < 64 := by have := st28; omega
      refine own_virt X31 hx hZ (y := (⟨"com/example/slackline/slackline/planning/FileOrderSets", "with", "(II)I"⟩ : MethodName)) hown (hw _ (List.mem_of_getElem? (i := 25) rfl)) (hw _ (List.mem_of_getElem? (i := 26) rfl)) (hw _ (List.mem_of_getElem? (i := 28) rfl)) (hw _ (List.mem_of_getElem? (i := 27) rfl)) (hw _ (List.mem_of_getElem? (i := 3) rfl)) (hw _ (List.mem_of_getElem? (i := 29) rfl)) I32.1 (rm3 l Z a0 hw [] b4 lb4 hb4 tb4 sb4 (oDep ((1 : Int32) + (p1 &&& (15 : Int32)))) S28 r26 ((p5 &&& (2147483647 : Int32)) % ((1 : Int32) + (p1 &&& (15 : Int32)))) h31 n0 Z31 I32 hgb4 disb4 ok28.1 hd4 hc_33 hs_33 hx_33) (by decide) (W := 0) (argsL := [(.int (Int32.ofNat r26)), (.int ((p5 &&& (2147483647 : Int32)) % ((1 : Int32) + (p1 &&& (15 : Int32)))))]) (rest := []) (by decide) (by decide) (by rw [hml]; rfl) (lenOf own_pd1 rfl) rfl rfl (Nat.le_of_eq rfl) (hb hby at_151) e31 (by decide) (by decide) ?_
      intro v33 T33 L33 hQ33 X33
      obtain ⟨rfl, N33q, K33, I33⟩ := hQ33
      have N33 := Fr.app N31 N33q
      have Z33 := Nat.le_trans Z31 K33.1
      obtain ⟨h33, e33⟩ : ∃ z, T33.heap = z := ⟨_, rfl⟩
      rw [e33] at K33 I33 Z33
      have I34 := I31.keep K33 (fun z hz => apart.2 z hz)
      have ok33 := oWith_ok ((p5 &&& (2147483647 : Int32)) % ((1 : Int32) + (p1 &&& (15 : Int32)))) (oDep ((1 : Int32) + (p1 &&& (15 : Int32)))) r26 S28 ok28.1 (by have := (show oCn S28 ≤ 6 by have := ok28.2.2.2; have := (show oCn oNew = 2 from rfl); omega); omega) hx_33
      have st33 := (oWith_st ((p5 &&& (2147483647 : Int32)) % ((1 : Int32) + (p1 &&& (15 : Int32)))) (oDep ((1 : Int32) + (p1 &&& (15 : Int32)))) r26 S28).trans st28
      have rl33 := oWith_rel ((p5 &&& (2147483647 : Int32)) % ((1 : Int32) + (p1 &&& (15 : Int32)))) (oDep ((1 : Int32) + (p1 &&& (15 : Int32)))) r26 S26 S28 ok26.1 rel28 (by have := (show oCn S26 ≤ 6 by have := ok26.2.2.2; have := (show oCn (oClear S22) = 2 from rfl); omega); omega) hx_31
      obtain ⟨S33, r33, hSr33⟩ : ∃ S r, oWith ((p5 &&& (2147483647 : Int32)) % ((1 : Int32) + (p1 &&& (15 : Int32)))) (oDep ((1 : Int32) + (p1 &&& (15 : Int32)))) r26 S28 = (S, r) := ⟨_, _, rfl⟩
      rw [hSr33] at I33 ok33 st33
      dsimp only at I33 ok33 st33
      rw [hSr33]
      rw [hSr33, hSr31] at rl33
      have req33 : r31 = r33 := rl33.1
      have rel33 : ORel S31 S33 := rl33.2
      subst req33
      show OWp p e below s _ _ _ (T33.setTop (mkF m 154 #[.val (.int p1), .val (.int p2), .val (.int p3), .val (.int p4), .val (.int p5), .val (.int ((1 : Int32) + (p1 &&& (15 : Int32)))), .val (.int ((p2 &&& (2147483647 : Int32)) % ((1 : Int32) + (p1 &&& (15 : Int32))))), .val (.int ((p3 &&& (2147483647 : Int32)) % ((1 : Int32) + (p1 &&& (15 : Int32))))), .val (.int ((p4 &&& (2147483647 : Int32)) % ((1 : Int32) + (p1 &&& (15 : Int32))))), .val (.int ((p5 &&& (2147483647 : Int32)) % ((1 : Int32) + (p1 &&& (15 : Int32))))), .val (.ref b1), .val (.ref b4), .val (.int (Int32.ofNat r8)), .val (.int (Int32.ofNat r26)), .val (.int (Int32.ofNat r26)), .val (.int (Int32.ofNat r31)), .val (.int (Int32.ofNat r26))] [(.int (Int32.ofNat r31))]))
      show OWp p e below s _ _ _ (T33.setTop (mkF m 154 #[.val (.int p1), .val (.int p2), .val (.int p3), .val (.int p4), .val (.int p5), .val (.int ((1 : Int32) + (p1 &&& (15 : Int32)))), .val (.int ((p2 &&& (2147483647 : Int32)) % ((1 : Int32) + (p1 &&& (15 : Int32))))), .val (.int ((p3 &&& (2147483647 : Int32)) % ((1 : Int32) + (p1 &&& (15 : Int32))))), .val (.int ((p4 &&& (2147483647 : Int32)) % ((1 : Int32) + (p1 &&& (15 : Int32))))), .val (.int ((p5 &&& (2147483647 : Int32)) % ((1 : Int32) + (p1 &&& (15 : Int32))))), .val (.ref b1), .val (.ref b4), .val (.int (Int32.ofNat r8)), .val (.int (Int32.ofNat r26)), .val (.int (Int32.ofNat r26)), .val (.int (Int32.ofNat r31)), .val (.int (Int32.ofNat r26))] [(.int (Int32.ofNat r31))]))
      refine own_st (F' := T33.setTop (mkF m 156 #[.val (.int p1), .val (.int p2), .val (.int p3), .val (.int p4), .val (.int p5), .val (.int ((1 : Int32) + (p1 &&& (15 : Int32)))), .val (.int ((p2 &&& (2147483647 : Int32)) % ((1 : Int32) + (p1 &&& (15 : Int32))))), .val (.int ((p3 &&& (2147483647 : Int32)) % ((1 : Int32) + (p1 &&& (15 : Int32))))), .val (.int ((p4 &&& (2147483647 : Int32)) % ((1 : Int32) + (p1 &&& (15 : Int32))))), .val (.int ((p5 &&& (2147483647 : Int32)) % ((1 : Int32) + (p1 &&& (15 : Int32))))), .val (.ref b1), .val (.ref b4), .val (.int (Int32.ofNat r8)), .val (.int (Int32.ofNat r26)), .val (.int (Int32.ofNat r26)), .val (.int (Int32.ofNat r31)), .val (.int (Int32.ofNat r31))] [])) (fun t_ kk => XS.istore X33.here hx rfl (hb hby at_154) rfl (l' := #[.val (.int p1), .val (.int p2), .val (.int p3), .val (.int p4), .val (.int p5), .val (.int ((1 : Int32) + (p1 &&& (15 : Int32)))), .val (.int ((p2 &&& (2147483647 : Int32)) % ((1 : Int32) + (p1 &&& (15 : Int32))))), .val (.int ((p3 &&& (2147483647 : Int32)) % ((1 : Int32) + (p1 &&& (15 : Int32))))), .val (.int ((p4 &&& (2147483647 : Int32)) % ((1 : Int32) + (p1 &&& (15 : Int32))))), .val (.int ((p5 &&& (2147483647 : Int32)) % ((1 : Int32) + (p1 &&& (15 : Int32))))), .val (.ref b1), .val (.ref b4), .val (.int (Int32.ofNat r8)), .val (.int (Int32.ofNat r26)), .val (.int (Int32.ofNat r26)), .val (.int (Int32.ofNat r31)), .val (.int (Int32.ofNat r31))]) rfl kk) ?_
      refine own_st (F' := T33.setTop (mkF m 158 #[.val (.int p1), .val (.int p2), .val (.int p3), .val (.int p4), .val (.int p5), .val (.int ((1 : Int32) + (p1 &&& (15 : Int32)))), .val (.int ((p2 &&& (2147483647 : Int32)) % ((1 : Int32) + (p1 &&& (15 : Int32))))), .val (.int ((p3 &&& (2147483647 : Int32)) % ((1 : Int32) + (p1 &&& (15 : Int32))))), .val (.int ((p4 &&& (2147483647 : Int32)) % ((1 : Int32) + (p1 &&& (15 : Int32))))), .val (.int ((p5 &&& (2147483647 : Int32)) % ((1 : Int32) + (p1 &&& (15 : Int32))))), .val (.ref b1), .val (.ref b4), .val (.int (Int32.ofNat r8)), .val (.int (Int32.ofNat r26)), .val (.int (Int32.ofNat r26)), .val (.int (Int32.ofNat r31)), .val (.int (Int32.ofNat r31))] [(.int (Int32.ofNat r26))])) (fun t_ kk => XS.iload X33.here hx rfl (hb hby at_156) rfl kk) ?_
      refine own_st (F' := T33.setTop (mkF m 160 #[.val (.int p1), .val (.int p2), .val (.int p3), .val (.int p4), .val (.int p5), .val (.int ((1 : Int32) + (p1 &&& (15 : Int32)))), .val (.int ((p2 &&& (2147483647 : Int32)) % ((1 : Int32) + (p1 &&& (15 : Int32))))), .val (.int ((p3 &&& (2147483647 : Int32)) % ((1 : Int32) + (p1 &&& (15 : Int32))))), .val (.int ((p4 &&& (2147483647 : Int32)) % ((1 : Int32) + (p1 &&& (15 : Int32))))), .val (.int ((p5 &&& (2147483647 : Int32)) % ((1 : Int32) + (p1 &&& (15 : Int32))))), .val (.ref b1), .val (.ref b4), .val (.int (Int32.ofNat r8)), .val (.int (Int32.ofNat r26)), .val (.int (Int32.ofNat r26)), .val (.int (Int32.ofNat r31)), .val (.int (Int32.ofNat r31))] [(.int (Int32.ofNat r26)), (.int (Int32.ofNat r26))])) (fun t_ kk => XS.iload X33.here hx rfl (hb hby at_158) rfl kk) ?_
      refine own_st (F' := T33.setTop (mkF m 163 #[.val (.int p1), .val (.int p2), .val (.int p3), .val (.int p4), .val (.int p5), .val (.int ((1 : Int32) + (p1 &&& (15 : Int32)))), .val (.int ((p2 &&& (2147483647 : Int32)) % ((1 : Int32) + (p1 &&& (15 : Int32))))), .val (.int ((p3 &&& (2147483647 : Int32)) % ((1 : Int32) + (p1 &&& (15 : Int32))))), .val (.int ((p4 &&& (2147483647 : Int32)) % ((1 : Int32) + (p1 &&& (15 : Int32))))), .val (.int ((p5 &&& (2147483647 : Int32)) % ((1 : Int32) + (p1 &&& (15 : Int32))))), .val (.ref b1), .val (.ref b4), .val (.int (Int32.ofNat r8)), .val (.int (Int32.ofNat r26)), .val (.int (Int32.ofNat r26)), .val (.int (Int32.ofNat r31)), .val (.int (Int32.ofNat r31))] [])) (fun t_ kk => XS.icmpNo X33.here hx rfl (hb hby at_160) rfl (teq (rfl : (Int32.ofNat r26) = (Int32.ofNat r26))).2 kk) ?_
      refine own_st (F' := T33.setTop (mkF m 165 #[.val (.int p1), .val (.int p2), .val (.int p3), .val (.int p4), .val (.int p5), .val (.int ((1 : Int32) + (p1 &&& (15 : Int32)))), .val (.int ((p2 &&& (2147483647 : Int32)) % ((1 : Int32) + (p1 &&& (15 : Int32))))), .val (.int ((p3 &&& (2147483647 : Int32)) % ((1 : Int32) + (p1 &&& (15 : Int32))))), .val (.int ((p4 &&& (2147483647 : Int32)) % ((1 : Int32) + (p1 &&& (15 : Int32))))), .val (.int ((p5 &&& (2147483647 : Int32)) % ((1 : Int32) + (p1 &&& (15 : Int32))))), .val (.ref b1), .val (.ref b4), .val (.int (Int32.ofNat r8)), .val (.int (Int32.ofNat r26)), .val (.int (Int32.ofNat r26)), .val (.int (Int32.ofNat r31)), .val (.int (Int32.ofNat r31))] [(.int (Int32.ofNat r31))])) (fun t_ kk => XS.iload X33.here hx rfl (hb hby at_163) rfl kk) ?_
      refine own_st (F' := T33.setTop (mkF m 167 #[.val (.int p1), .val (.int p2), .val (.int p3), .val (.int p4), .val (.int p5), .val (.int ((1 : Int32) + (p1 &&& (15 : Int32)))), .val (.int ((p2 &&& (2147483647 : Int32)) % ((1 : Int32) + (p1 &&& (15 : Int32))))), .val (.int ((p3 &&& (2147483647 : Int32)) % ((1 : Int32) + (p1 &&& (15 : Int32))))), .val (.int ((p4 &&& (2147483647 : Int32)) % ((1 : Int32) + (p1 &&& (15 : Int32))))), .val (.int ((p5 &&& (2147483647 : Int32)) % ((1 : Int32) + (p1 &&& (15 : Int32))))), .val (.ref b1), .val (.ref b4), .val (.int (Int32.ofNat r8)), .val (.int (Int32.ofNat r26)), .val (.int (Int32.ofNat r26)), .val (.int (Int32.ofNat r31)), .val (.int (Int32.ofNat r31))] [(.int (Int32.ofNat r31)), (.int (Int32.ofNat r31))])) (fun t_ kk => XS.iload X33.here hx rfl (hb hby at_165) rfl kk) ?_
      refine own_st (F' := T33.setTop (mkF m 170 #[.val (.int p1), .val (.int p2), .val (.int p3), .val (.int p4), .val (.int p5), .val (.int ((1 : Int32) + (p1 &&& (15 : Int32)))), .val (.int ((p2 &&& (2147483647 : Int32)) % ((1 : Int32) + (p1 &&& (15 : Int32))))), .val (.int ((p3 &&& (2147483647 : Int32)) % ((1 : Int32) + (p1 &&& (15 : Int32))))), .val (.int ((p4 &&& (2147483647 : Int32)) % ((1 : Int32) + (p1 &&& (15 : Int32))))), .val (.int ((p5 &&& (2147483647 : Int32)) % ((1 : Int32) + (p1 &&& (15 : Int32))))), .val (.ref b1), .val (.ref b4), .val (.int (Int32.ofNat r8)), .val (.int (Int32.ofNat r26)), .val (.int (Int32.ofNat r26)), .val (.int (Int32.ofNat r31)), .val (.int (Int32.ofNat r31))] [])) (fun t_ kk => XS.icmpNo X33.here hx rfl (hb hby at_167) rfl (teq (rfl : (Int32.ofNat r31) = (Int32.ofNat r31))).2 kk) ?_
      refine own_st (F' := T33.setTop (mkF m 171 #[.val (.int p1), .val (.int p2), .val (.int p3), .val (.int p4), .val (.int p5), .val (.int ((1 : Int32) + (p1 &&& (15 : Int32)))), .val (.int ((p2 &&& (2147483647 : Int32)) % ((1 : Int32) + (p1 &&& (15 : Int32))))), .val (.int ((p3 &&& (2147483647 : Int32)) % ((1 : Int32) + (p1 &&& (15 : Int32))))), .val (.int ((p4 &&& (2147483647 : Int32)) % ((1 : Int32) + (p1 &&& (15 : Int32))))), .val (.int ((p5 &&& (2147483647 : Int32)) % ((1 : Int32) + (p1 &&& (15 : Int32))))), .val (.ref b1), .val (.ref b4), .val (.int (Int32.ofNat r8)), .val (.int (Int32.ofNat r26)), .val (.int (Int32.ofNat r26)), .val (.int (Int32.ofNat r31)), .val (.int (Int32.ofNat r31))] [(.int (1 : Int32))])) (fun t_ kk => XS.iconst X33.here hx rfl (hb hby at_170) kk) ?_
      refine own_st (F' := T33.setTop (mkF m 175 #[.val (.int p1), .val (.int p2), .val (.int p3), .val (.int p4), .val (.int p5), .val (.int ((1 : Int32) + (p1 &&& (15 : Int32)))), .val (.int ((p2 &&& (2147483647 : Int32)) % ((1 : Int32) + (p1 &&& (15 : Int32))))), .val (.int ((p3 &&& (2147483647 : Int32)) % ((1 : Int32) + (p1 &&& (15 : Int32))))), .val (.int ((p4 &&& (2147483647 : Int32)) % ((1 : Int32) + (p1 &&& (15 : Int32))))), .val (.int ((p5 &&& (2147483647 : Int32)) % ((1 : Int32) + (p1 &&& (15 : Int32))))), .val (.ref b1), .val (.ref b4), .val (.int (Int32.ofNat r8)), .val (.int (Int32.ofNat r26)), .val (.int (Int32.ofNat r26)), .val (.int (Int32.ofNat r31)), .val (.int (Int32.ofNat r31))] [(.int (1 : Int32))])) (fun t_ kk => XS.goto X33.here hx rfl (pc0 := 171) (pc' := 175) rfl (hb hby at_171) (by decide) (by decide) kk) ?_
      refine own_fin X33 (some (.int (1 : Int32))) (fun h => by rw [Bd.returns] at h; cases h) Bd.notSynchronized (by decide) (by decide) (fun fs hr => retN X33 hx (t := .boolean) Bd.returns (by simp) (hb hby at_175) hr) ?_
      rw [e33]
      exact ⟨rfl, N33⟩
set_option maxRecDepth 65536 in
set_option maxHeartbeats 40000000 in
theorem comes_1 {Post : Tables → Env → Array Value → State → Outcome → State → Prop} (hpost : ∀ tb e args s v u, (limb_1_1.after args s (.returned v) u = true ∧ limb_1_2.after args s (.returned v) u = true ∧ True) → FrameEnd s (.returned v) u (Jvm.fieldLocs frame_1_writes args s ++ Jvm.arrayLocs frame_1_arrays args s ++ Jvm.staticLocs frame_1_statics s) 32 512 → Post tb e args s (.returned v) u) :
    ArmFor flags0 classFile x code maxLocals ret World_1 tables_1 room_1 Calls_1 rest_1 Pre_1 Post := by
  intro l hfl _ _ p e ha hc hk s m args below hf hA hF happ hP
  obtain ⟨hcalls, hrest, hpre⟩ := hP
  obtain ⟨-, -, -, hnamed, -, -, -, hat⟩ := (Spec.applies_iff hf).mp happ
  obtain ⟨hg, hn⟩ := and_e (Cond.before_iff.mp (show (Jvm.Cond.and given_1 narrow_1).before args s = true from hpre))
  obtain ⟨hcount, q0⟩ := and_e hg
  obtain ⟨k0, q1⟩ := and_e q0
  obtain ⟨k1, q2⟩ := and_e q1
  obtain ⟨k2, q3⟩ := and_e q2
  obtain ⟨k3, q4⟩ := and_e q3
  obtain ⟨w0, w1, w2, w3, w4, rfl⟩ : ∃ w0 w1 w2 w3 w4 : Value, args = #[w0, w1, w2, w3, w4] := by
    have hs : args.size = 5 := by simpa [Cond.value, given_1] using hcount
    obtain ⟨L⟩ := args
    match L, hs with
    | [w0, w1, w2, w3, w4], _ => exact ⟨w0, w1, w2, w3, w4, rfl⟩
  have hw := fun d (hd : d ∈ tables_1) => atoms_spec (ws := Jvm.Cond.code x code maxLocals ret :: tables_1) hat d (List.mem_cons_of_mem _ hd)
  obtain ⟨i0, ei0⟩ := is_v k0
  obtain rfl : w0 = (.int i0) := Option.some.inj ei0
  obtain ⟨i1, ei1⟩ := is_v k1
  obtain rfl : w1 = (.int i1) := Option.some.inj ei1
  obtain ⟨i2, ei2⟩ := is_v k2
  obtain rfl : w2 = (.int i2) := Option.some.inj ei2
  obtain ⟨i3, ei3⟩ := is_v k3
  obtain rfl : w3 = (.int i3) := Option.some.inj ei3
  obtain ⟨i4, ei4⟩ := is_v q4
  obtain rfl : w4 = (.int i4) := Option.some.inj ei4
  obtain ⟨n, o, h1, h2, h3, _, L, rfl, ⟨rfl, N⟩, hq⟩ := rm0 l s _ hw tables_1 i0 i1 i2 i3 i4 s.heap s.heap.size (Nat.le_refl _)  p e ha hc hk s m _ below hf ((Spec.applies_iff_loose hf).mp happ).1 ⟨rfl, State.Warmed39.refl s, rfl⟩ trivial
  refine ⟨n, _, h1, h2, h3, hpost _ _ _ _ _ _ ⟨Cond.after_iff.mpr rfl, Cond.after_iff.mpr (eq_i res_at (Term.int_eval (1)) rfl), trivial⟩ ⟨hq.1, hq.2.1, (hq.2.2.sift fun y hy => Or.inr (N y hy)).mono (by decide) (by decide)⟩⟩
theorem main_1_1 : Claimed_1_1 := comes_1 fun _ _ _ _ _ _ h hF => ⟨h.1, hF⟩
theorem main_1_2 : Claimed_1_2 := comes_1 fun _ _ _ _ _ _ h hF => ⟨h.2.1, hF⟩
end Jvm.Pilot.@@N@@
namespace Jvm.Pilot.@@N@@
open Jvm Jvm.ClassFile Sem Op Lib Jvm.Free Jvm.Stand Jvm.Pilot.@@N@@.Jvm.D
/-! MADE BY PROGRAM (witnessworld.py) out of the Statement's table words and the real class files: 14 classes; the members and pool entries that the words name. The judged class is class 1, her method 1. -/
namespace start1
open Jvm.ClassFile
def u (s : String) : CpInfo := .utf8 (stringToUtf16 s)
/-- a pool by its gaps: so many unusable entries, then the entry; so many at the end -/
def gap : Nat → List CpInfo → List CpInfo
  | 0, r => r
  | n + 1, r => .unusable :: gap n r
def poolList (es : List (Nat × CpInfo)) (last : Nat) : List CpInfo := es.foldr (fun e r => gap e.1 (e.2 :: r)) (gap last [])
def pool (es : List (Nat × CpInfo)) (last : Nat) : Array CpInfo := ⟨poolList es last⟩
def fileOf (pool : Array CpInfo) (this : Nat) (attrs : Array Attribute := #[]) (ms : Array MethodInfo := #[]) (fl : Nat := 33) (sup : Nat := 0) (ifs : Array Nat := #[]) (fds : Array FieldInfo := #[]) : ClassFile where
  minorVersion := 0
  majorVersion := 65
  constantPool := pool
  accessFlags := fl
  thisClass := this
  superClass := sup
  interfaces := ifs
  fields := fds
  methods := ms
  attributes := attrs
def plain (name : String) (sup : Option ClassId) : Class where
  name := name
  kind := .ordinary
  loader := none
  accessFlags := 33
  super := sup
  interfaces := #[]
  cf := none
  fields := #[]
  methods := #[]
  instanceTypes := #[]
  staticTypes := #[]
  resolved := #[]
  callSites := []
  init := .initialized
  statics := none
  mirror := none

def pool0 : Array CpInfo := pool [(5, u "<init>"), (0, u "()V"), (1, .class_ 10), (1, u "java/lang/Object")] 113

def k0c0 : Code := { maxStack := 0, maxLocals := 1, code := object_method_1_code, exceptionTable := #[], attributes := #[] }
def k0m0 : Method := { name := "<init>", desc := "()V", sig := { parameters := [], returnType := none }, accessFlags := 1, code := some k0c0 }
/-- java/lang/Object -/
def k0 : Class := { plain "java/lang/Object" none with
  accessFlags := 33
  interfaces := #[]
  cf := some (fileOf pool0 8 #[] #[{ accessFlags := 1, nameIndex := 5, descriptorIndex := 6, attributes := #[] }] 33 0 #[] #[])
  fields := #[]
  methods := #[k0m0]
  instanceTypes := #[]
  staticTypes := #[]
  resolved := Array.replicate 124 none
  statics := none }

def pool1 : Array CpInfo := pool [(2, .class_ 4), (1, u "java/lang/Object"), (0, u "<init>"), (0, u "()V"), (0, .integer 2147483647), (0, .class_ 9), (0, u "com/example/slackline/slackline/planning/FileOrderSets"), (0, .methodref 8 11), (0, .nameAndType 5 12), (0, u "(I)V"), (0, .methodref 8 14), (0, .nameAndType 15 16), (0, u "with"), (0, u "(II)I"), (0, .methodref 8 18), (0, .nameAndType 19 6), (0, u "clear"), (0, .class_ 21), (0, u "com/example/slackline/slackline/planning/FileOrderSetsClearPinLaw"), (2, u "law"), (0, u "(IIIII)Z")] 3

def k1m0 : Method := { name := "<init>", desc := "()V", sig := { parameters := [], returnType := none }, accessFlags := 1, code := none }
def k1c1 : Code := { maxStack := 3, maxLocals := 17, code := code, exceptionTable := #[], attributes := #[] }
def k1m1 : Method := { name := "law", desc := "(IIIII)Z", sig := { parameters := [.int, .int, .int, .int, .int], returnType := some .boolean }, accessFlags := 9, code := some k1c1 }
/-- com/example/slackline/slackline/planning/FileOrderSetsClearPinLaw -/
def k1 : Class := { plain "com/example/slackline/slackline/planning/FileOrderSetsClearPinLaw" (some 0) with
  accessFlags := 49
  interfaces := #[]
  cf := some (fileOf pool1 20 #[] #[{ accessFlags := 1, nameIndex := 5, descriptorIndex := 6, attributes := #[] }, { accessFlags := 9, nameIndex := 24, descriptorIndex := 25, attributes := #[] }] 49 2 #[] #[])
  fields := #[]
  methods := #[k1m0, k1m1]
  instanceTypes := #[]
  staticTypes := #[]
  resolved := Array.replicate 29 none
  statics := none }

def pool2 : Array CpInfo := pool [(1, .methodref 2 3), (0, .class_ 4), (0, .nameAndType 5 6), (0, u "java/lang/Object"), (0, u "<init>"), (0, u "()V"), (0, .fieldref 8 9), (0, .class_ 10), (0, .nameAndType 11 12), (0, u "com/example/slackline/slackline/planning/FileOrderSets"), (0, u "lows"), (0, u "[I"), (0, .fieldref 8 14), (0, .nameAndType 15 12), (0, u "highs"), (0, .fieldref 8 17), (0, .nameAndType 18 12), (0, u "table"), (0, .fieldref 8 20), (0, .nameAndType 21 12), (0, u "stamps"), (0, .fieldref 8 23), (0, .nameAndType 24 25), (0, u "stamp"), (0, u "I"), (0, .fieldref 8 27), (0, .nameAndType 28 25), (0, u "depth"), (0, .fieldref 8 30), (0, .nameAndType 31 25), (0, u "count"), (0, .methodref 8 33), (0, .nameAndType 34 35), (0, u "with"), (0, u "(III)I"), (4, .methodref 8 41), (0, .nameAndType 42 43), (0, u "inLow"), (0, u "(II)Z"), (0, .methodref 8 45), (0, .nameAndType 46 47), (0, u "low"), (0, u "(I)I"), (0, .methodref 8 49), (0, .nameAndType 50 47), (0, u "high"), (0, .methodref 8 52), (0, .nameAndType 53 54), (0, u "join"), (0, u "(II)I"), (2, .methodref 8 58), (0, .nameAndType 59 54), (0, u "slot"), (9, .class_ 70), (0, u "java/lang/Integer"), (0, .long 11400714819323198485), (3, .methodref 69 76), (0, .nameAndType 77 47), (0, u "numberOfTrailingZeros"), (0, u "EMPTY"), (2, u "FULL_PLACE"), (1, u "(I)V"), (3, u "clear")] 4

def k2c0 : Code := { maxStack := 4, maxLocals := 3, code := prog_8_method_1_code, exceptionTable := #[], attributes := #[] }
def k2m0 : Method := { name := "<init>", desc := "(I)V", sig := { parameters := [.int], returnType := none }, accessFlags := 0, code := some k2c0 }
def k2c1 : Code := { maxStack := 3, maxLocals := 1, code := prog_8_method_2_code, exceptionTable := #[], attributes := #[] }
def k2m1 : Method := { name := "clear", desc := "()V", sig := { parameters := [], returnType := none }, accessFlags := 0, code := some k2c1 }
def k2c2 : Code := { maxStack := 4, maxLocals := 3, code := prog_8_method_3_code, exceptionTable := #[], attributes := #[] }
def k2m2 : Method := { name := "with", desc := "(II)I", sig := { parameters := [.int, .int], returnType := some .int }, accessFlags := 0, code := some k2c2 }
def k2c3 : Code := { maxStack := 7, maxLocals := 5, code := prog_8_method_5_code, exceptionTable := #[], attributes := #[] }
def k2m3 : Method := { name := "with", desc := "(III)I", sig := { parameters := [.int, .int, .int], returnType := some .int }, accessFlags := 2, code := some k2c3 }
def k2c4 : Code := { maxStack := 3, maxLocals := 2, code := prog_8_method_8_code, exceptionTable := #[], attributes := #[] }
def k2m4 : Method := { name := "inLow", desc := "(II)Z", sig := { parameters := [.int, .int], returnType := some .boolean }, accessFlags := 10, code := some k2c4 }
def k2c5 : Code := { maxStack := 2, maxLocals := 2, code := prog_8_method_9_code, exceptionTable := #[], attributes := #[] }
def k2m5 : Method := { name := "low", desc := "(I)I", sig := { parameters := [.int], returnType := some .int }, accessFlags := 2, code := some k2c5 }
def k2c6 : Code := { maxStack := 2, maxLocals := 2, code := prog_8_method_10_code, exceptionTable := #[], attributes := #[] }
def k2m6 : Method := { name := "high", desc := "(I)I", sig := { parameters := [.int], returnType := some .int }, accessFlags := 2, code := some k2c6 }
def k2c7 : Code := { maxStack := 4, maxLocals := 5, code := prog_8_method_11_code, exceptionTable := #[], attributes := #[] }
def k2m7 : Method := { name := "join", desc := "(II)I", sig := { parameters := [.int, .int], returnType := some .int }, accessFlags := 2, code := some k2c7 }
def k2c8 : Code := { maxStack := 4, maxLocals := 5, code := prog_8_method_13_code, exceptionTable := #[], attributes := #[] }
def k2m8 : Method := { name := "slot", desc := "(II)I", sig := { parameters := [.int, .int], returnType := some .int }, accessFlags := 2, code := some k2c8 }
/-- com/example/slackline/slackline/planning/FileOrderSets -/
def k2 : Class := { plain "com/example/slackline/slackline/planning/FileOrderSets" (some 0) with
  accessFlags := 48
  interfaces := #[]
  cf := some (fileOf pool2 8 #[] #[{ accessFlags := 0, nameIndex := 5, descriptorIndex := 83, attributes := #[] }, { accessFlags := 0, nameIndex := 87, descriptorIndex := 6, attributes := #[] }, { accessFlags := 0, nameIndex := 34, descriptorIndex := 54, attributes := #[] }, { accessFlags := 2, nameIndex := 34, descriptorIndex := 35, attributes := #[] }, { accessFlags := 10, nameIndex := 42, descriptorIndex := 43, attributes := #[] }, { accessFlags := 2, nameIndex := 46, descriptorIndex := 47, attributes := #[] }, { accessFlags := 2, nameIndex := 50, descriptorIndex := 47, attributes := #[] }, { accessFlags := 2, nameIndex := 53, descriptorIndex := 54, attributes := #[] }, { accessFlags := 2, nameIndex := 59, descriptorIndex := 54, attributes := #[] }] 48 2 #[] #[{ accessFlags := 24, nameIndex := 78, descriptorIndex := 25, attributes := #[] }, { accessFlags := 26, nameIndex := 81, descriptorIndex := 25, attributes := #[] }, { accessFlags := 18, nameIndex := 28, descriptorIndex := 25, attributes := #[] }, { accessFlags := 2, nameIndex := 11, descriptorIndex := 12, attributes := #[] }, { accessFlags := 2, nameIndex := 15, descriptorIndex := 12, attributes := #[] }, { accessFlags := 2, nameIndex := 31, descriptorIndex := 25, attributes := #[] }, { accessFlags := 2, nameIndex := 18, descriptorIndex := 12, attributes := #[] }, { accessFlags := 2, nameIndex := 21, descriptorIndex := 12, attributes := #[] }, { accessFlags := 2, nameIndex := 24, descriptorIndex := 25, attributes := #[] }])
  fields := #[{ name := "EMPTY", type := .int, accessFlags := 24, slot := 0, constantValue := 0 }, { name := "FULL_PLACE", type := .int, accessFlags := 26, slot := 1, constantValue := 0 }, { name := "depth", type := .int, accessFlags := 18, slot := 0, constantValue := 0 }, { name := "lows", type := (.array .int), accessFlags := 2, slot := 1, constantValue := 0 }, { name := "highs", type := (.array .int), accessFlags := 2, slot := 2, constantValue := 0 }, { name := "count", type := .int, accessFlags := 2, slot := 3, constantValue := 0 }, { name := "table", type := (.array .int), accessFlags := 2, slot := 4, constantValue := 0 }, { name := "stamps", type := (.array .int), accessFlags := 2, slot := 5, constantValue := 0 }, { name := "stamp", type := .int, accessFlags := 2, slot := 6, constantValue := 0 }]
  methods := #[k2m0, k2m1, k2m2, k2m3, k2m4, k2m5, k2m6, k2m7, k2m8]
  instanceTypes := #[.int, (.array .int), (.array .int), .int, (.array .int), (.array .int), .int]
  staticTypes := #[.int, .int]
  resolved := Array.replicate 92 none
  statics := none }

def pool3 : Array CpInfo := pool [(1, .class_ 2), (0, u "java/io/Serializable"), (0, .class_ 4), (0, u "java/lang/Object")] 2

/-- java/io/Serializable -/
def k3 : Class := { plain "java/io/Serializable" (some 0) with
  accessFlags := 1537
  interfaces := #[]
  cf := some (fileOf pool3 1 #[] #[] 1537 3 #[] #[])
  fields := #[]
  methods := #[]
  instanceTypes := #[]
  staticTypes := #[]
  resolved := Array.replicate 7 none
  statics := none }

def pool4 : Array CpInfo := pool [(2, .class_ 4), (1, u "java/lang/Object"), (0, u "<init>"), (0, u "()V"), (1, .class_ 10), (1, u "java/lang/Number"), (2, .class_ 14), (0, u "java/io/Serializable"), (0, u "serialVersionUID"), (0, u "J")] 20

def k4m0 : Method := { name := "<init>", desc := "()V", sig := { parameters := [], returnType := none }, accessFlags := 1, code := none }
/-- java/lang/Number -/
def k4 : Class := { plain "java/lang/Number" (some 0) with
  accessFlags := 1057
  interfaces := #[3]
  cf := some (fileOf pool4 8 #[] #[{ accessFlags := 1, nameIndex := 5, descriptorIndex := 6, attributes := #[] }] 1057 2 #[13] #[{ accessFlags := 26, nameIndex := 15, descriptorIndex := 16, attributes := #[] }])
  fields := #[{ name := "serialVersionUID", type := .long, accessFlags := 26, slot := 0, constantValue := 0 }]
  methods := #[k4m0]
  instanceTypes := #[]
  staticTypes := #[.long]
  resolved := Array.replicate 37 none
  statics := none }

def pool5 : Array CpInfo := pool [(1, .class_ 2), (0, u "java/lang/Comparable"), (0, .class_ 4), (0, u "java/lang/Object")] 7

/-- java/lang/Comparable -/
def k5 : Class := { plain "java/lang/Comparable" (some 0) with
  accessFlags := 1537
  interfaces := #[]
  cf := some (fileOf pool5 1 #[] #[] 1537 3 #[] #[])
  fields := #[]
  methods := #[]
  instanceTypes := #[]
  staticTypes := #[]
  resolved := Array.replicate 12 none
  statics := none }

def pool6 : Array CpInfo := pool [(1, .class_ 2), (0, u "java/lang/constant/Constable"), (0, .class_ 4), (0, u "java/lang/Object")] 6

/-- java/lang/constant/Constable -/
def k6 : Class := { plain "java/lang/constant/Constable" (some 0) with
  accessFlags := 1537
  interfaces := #[]
  cf := some (fileOf pool6 1 #[] #[] 1537 3 #[] #[])
  fields := #[]
  methods := #[]
  instanceTypes := #[]
  staticTypes := #[]
  resolved := Array.replicate 11 none
  statics := none }

def pool7 : Array CpInfo := pool [(1, .class_ 2), (0, u "java/lang/constant/ConstantDesc"), (0, .class_ 4), (0, u "java/lang/Object")] 32

/-- java/lang/constant/ConstantDesc -/
def k7 : Class := { plain "java/lang/constant/ConstantDesc" (some 0) with
  accessFlags := 1537
  interfaces := #[]
  cf := some (fileOf pool7 1 #[] #[] 1537 3 #[] #[])
  fields := #[]
  methods := #[]
  instanceTypes := #[]
  staticTypes := #[]
  resolved := Array.replicate 37 none
  statics := none }

def pool8 : Array CpInfo := pool [(1, .class_ 2), (0, u "java/lang/Integer"), (16, u "digits"), (0, u "[C"), (33, u "(I)I"), (30, u "DigitOnes"), (0, u "[B"), (2, u "DigitTens"), (99, .class_ 190), (0, u "java/lang/Integer$IntegerCache"), (3, u "I"), (8, .class_ 204), (0, u "java/lang/Number"), (2, u "value"), (56, .integer 65536), (37, u "TYPE"), (0, u "Ljava/lang/Class;"), (0, .class_ 305), (0, u "java/lang/Comparable"), (0, .class_ 307), (0, u "java/lang/constant/Constable"), (0, .class_ 309), (0, u "java/lang/constant/ConstantDesc"), (0, u "MIN_VALUE"), (1, u "MAX_VALUE"), (3, u "SIZE"), (1, u "BYTES"), (1, u "serialVersionUID"), (0, u "J"), (84, u "numberOfTrailingZeros")] 46

def k8c0 : Code := { maxStack := 3, maxLocals := 2, code := jdk_33_method_48_code, exceptionTable := #[], attributes := #[] }
def k8m0 : Method := { name := "numberOfTrailingZeros", desc := "(I)I", sig := { parameters := [.int], returnType := some .int }, accessFlags := 9, code := some k8c0 }
/-- java/lang/Integer -/
def k8 : Class := { plain "java/lang/Integer" (some 4) with
  accessFlags := 49
  interfaces := #[5, 6, 7]
  cf := some (fileOf pool8 1 #[.nestMembers #[189]] #[{ accessFlags := 9, nameIndex := 406, descriptorIndex := 54, attributes := #[] }] 49 203 #[304, 306, 308] #[{ accessFlags := 25, nameIndex := 310, descriptorIndex := 194, attributes := #[] }, { accessFlags := 25, nameIndex := 312, descriptorIndex := 194, attributes := #[] }, { accessFlags := 25, nameIndex := 302, descriptorIndex := 303, attributes := #[] }, { accessFlags := 24, nameIndex := 19, descriptorIndex := 20, attributes := #[] }, { accessFlags := 24, nameIndex := 89, descriptorIndex := 86, attributes := #[] }, { accessFlags := 24, nameIndex := 85, descriptorIndex := 86, attributes := #[] }, { accessFlags := 18, nameIndex := 207, descriptorIndex := 194, attributes := #[] }, { accessFlags := 25, nameIndex := 316, descriptorIndex := 194, attributes := #[] }, { accessFlags := 25, nameIndex := 318, descriptorIndex := 194, attributes := #[] }, { accessFlags := 26, nameIndex := 320, descriptorIndex := 321, attributes := #[] }])
  fields := #[{ name := "MIN_VALUE", type := .int, accessFlags := 25, slot := 0, constantValue := 0 }, { name := "MAX_VALUE", type := .int, accessFlags := 25, slot := 1, constantValue := 0 }, { name := "TYPE", type := (.object "java/lang/Class"), accessFlags := 25, slot := 2, constantValue := 0 }, { name := "digits", type := (.array .char), accessFlags := 24, slot := 3, constantValue := 0 }, { name := "DigitTens", type := (.array .byte), accessFlags := 24, slot := 4, constantValue := 0 }, { name := "DigitOnes", type := (.array .byte), accessFlags := 24, slot := 5, constantValue := 0 }, { name := "value", type := .int, accessFlags := 18, slot := 0, constantValue := 0 }, { name := "SIZE", type := .int, accessFlags := 25, slot := 6, constantValue := 0 }, { name := "BYTES", type := .int, accessFlags := 25, slot := 7, constantValue := 0 }, { name := "serialVersionUID", type := .long, accessFlags := 26, slot := 8, constantValue := 0 }]
  methods := #[k8m0]
  instanceTypes := #[.int]
  staticTypes := #[.int, .int, (.object "java/lang/Class"), (.array .char), (.array .byte), (.array .byte), .int, .int, .long]
  resolved := Array.replicate 453 none
  statics := none }

def pool9 : Array CpInfo := pool [(1, u "java/lang/Cloneable"), (0, .class_ 1), (0, u "java/lang/Object"), (0, .class_ 3)] 3

/-- java/lang/Cloneable -/
def k9 : Class := { plain "java/lang/Cloneable" (some 0) with
  accessFlags := 1537
  interfaces := #[]
  cf := some (fileOf pool9 2 #[] #[] 1537 4 #[] #[])
  fields := #[]
  methods := #[]
  instanceTypes := #[]
  staticTypes := #[]
  resolved := Array.replicate 8 none
  statics := none }

/-- the primitive byte -/
def k10 : Class := { plain "byte" none with kind := .primitive 'B', accessFlags := 0x411 }
/-- [B -/
def k11 : Class := { plain "[B" (some 0) with kind := .array 10 .byte, interfaces := #[9, 3], accessFlags := 1041 }

/-- the primitive int -/
def k12 : Class := { plain "int" none with kind := .primitive 'I', accessFlags := 0x411 }
/-- [I -/
def k13 : Class := { plain "[I" (some 0) with kind := .array 12 .int, interfaces := #[9, 3], accessFlags := 1041 }

def heap : Heap := #[]
def classes : Array Class := #[k0, k1, k2, k3, k4, k5, k6, k7, k8, k9, k10, k11, k12, k13]
def interned : List (Array UInt16 × Addr) := []
def slotsUsed : Nat := 0
def theMethod : MethodId := ⟨1, 1⟩
def args0 : Array Value := #[.int 5, .int 7, .int 9, .int 11, .int 2]
def aboutOver (below : List Frame) : State where
  vm := { classes := classes, interned := interned.toArray }
  heap := heap
  slotsUsed := slotsUsed
  threads := #[{ frames := .invoking theMethod args0 :: below }]
def below0 : List Frame := [.native { method := ⟨0, 0⟩, args := #[] }]
def about1 : State := aboutOver below0
def p0 : Program := .bare "" "" ""
def e0 : Env := launch0.env 0 0 0
theorem w_frames : about1.frames = Frame.invoking theMethod args0 :: below0 := rfl
set_option maxRecDepth 65536 in
theorem w_args : argsFit about1.vm theMethod args0 = true := by decide +kernel
set_option maxRecDepth 65536 in
theorem w_heap : heapFits about1 = true := by decide +kernel
set_option maxRecDepth 65536 in
theorem w_runnable : about1.curStatus? = some .runnable := by decide +kernel
set_option maxRecDepth 65536 in
theorem w_alone : about1.alone = true := by decide +kernel
set_option maxRecDepth 65536 in
theorem w_named : about1.methodNamed? x = some theMethod := by decide +kernel
set_option maxRecDepth 65536 in
theorem w_hears : about1.hears theMethod below0 = true := by decide +kernel
set_option maxRecDepth 65536 in
theorem w_ripe : about1.ripe theMethod args0 below0 = true := by decide +kernel
theorem w_running : about1.status = .running := rfl
set_option maxRecDepth 65536 in
theorem w_room : about1.hasRoom e0.platform room_1 = true :=
  launch0.hasRoom_least _ room_1 (by decide +kernel) (by decide +kernel) (by decide +kernel) (by decide +kernel) (by decide +kernel) (by decide +kernel)
theorem allAtoms_all (ts : List Jvm.Cond) (a : Array Jvm.Value) (st : Jvm.State) : (allAtoms ts).before a st = ts.all (fun c => c.before a st) := by
  induction ts with
  | nil => rfl
  | cons c t ih =>
    show (Jvm.Cond.and c (allAtoms t)).before a st = _
    rw [Jvm.Cond.before_and, ih, List.all_cons]
def words1 : List Jvm.Cond := Jvm.Cond.code x code maxLocals ret :: tables_1
/-- a 'code' word, met by the world's own term for the bytes: nothing is compared byte by byte -/
theorem code_word {y : MethodName} {bytes : ByteArray} {mx : Nat} {rt : Option FieldType} {a : Array Value} {s : State} {m : MethodId} {meth : Method} {c : Code} (h1 : s.methodNamed? y = some m) (h2 : s.vm.method? m = some meth) (h3 : meth.code = some c) (h4 : c.code = bytes)
    (h5 : (c.maxLocals == mx && c.exceptionTable.isEmpty && decide (c.maxStack ≤ mostOperands) && decide (meth.sig.returnType = rt) && !meth.locks && decide (parseMethodDescriptor y.desc = some meth.sig)) = true) : (Jvm.Cond.code y bytes mx rt).before a s = true := by
  simp only [Bool.and_eq_true, beq_iff_eq, Bool.not_eq_true', decide_eq_true_eq] at h5
  obtain ⟨⟨⟨⟨⟨g1, g2⟩, g3⟩, g4⟩, g5⟩, g6⟩ := h5
  simp [Cond.before, Cond.holds, Cond.value, h1, h2, h3, h4, g1, g2, g3, g4, g5, g6]
def isCode : Jvm.Cond → Bool
  | .code _ _ _ _ => true
  | _ => false
theorem all_split {L : List Jvm.Cond} {P : Jvm.Cond → Bool} (h1 : L.all (fun c => isCode c || P c) = true) (h2 : ∀ c ∈ L.filter isCode, P c = true) : L.all P = true := by
  refine List.all_eq_true.mpr fun c hc => ?_
  have h := List.all_eq_true.mp h1 c hc
  rcases Bool.eq_false_or_eq_true (isCode c) with hi | hi
  · exact h2 c (List.mem_filter.mpr ⟨hc, hi⟩)
  · simpa [hi] using h
set_option maxRecDepth 65536 in
theorem w_c0 : (Jvm.Cond.code x code maxLocals ret).before args0 about1 = true := code_word (m := ⟨1, 1⟩) (meth := k1m1) (c := k1c1) (by decide +kernel) rfl rfl rfl (by decide +kernel)
set_option maxRecDepth 65536 in
theorem w_c1 : (Jvm.Cond.code ({ cls := "com/example/slackline/slackline/planning/FileOrderSets", name := "<init>", desc := "(I)V" } : Jvm.MethodName) prog_8_method_1_code (3 : Nat) (Option.none : Option Jvm.ClassFile.FieldType)).before args0 about1 = true := code_word (m := ⟨2, 0⟩) (meth := k2m0) (c := k2c0) (by decide +kernel) rfl rfl rfl (by decide +kernel)
set_option maxRecDepth 65536 in
theorem w_c2 : (Jvm.Cond.code ({ cls := "java/lang/Object", name := "<init>", desc := "()V" } : Jvm.MethodName) object_method_1_code (1 : Nat) (Option.none : Option Jvm.ClassFile.FieldType)).before args0 about1 = true := code_word (m := ⟨0, 0⟩) (meth := k0m0) (c := k0c0) (by decide +kernel) rfl rfl rfl (by decide +kernel)
set_option maxRecDepth 65536 in
theorem w_c3 : (Jvm.Cond.code ({ cls := "com/example/slackline/slackline/planning/FileOrderSets", name := "with", desc := "(II)I" } : Jvm.MethodName) prog_8_method_3_code (3 : Nat) (Option.some Jvm.ClassFile.FieldType.int)).before args0 about1 = true := code_word (m := ⟨2, 2⟩) (meth := k2m2) (c := k2c2) (by decide +kernel) rfl rfl rfl (by decide +kernel)
set_option maxRecDepth 65536 in
theorem w_c4 : (Jvm.Cond.code ({ cls := "com/example/slackline/slackline/planning/FileOrderSets", name := "with", desc := "(III)I" } : Jvm.MethodName) prog_8_method_5_code (5 : Nat) (Option.some Jvm.ClassFile.FieldType.int)).before args0 about1 = true := code_word (m := ⟨2, 3⟩) (meth := k2m3) (c := k2c3) (by decide +kernel) rfl rfl rfl (by decide +kernel)
set_option maxRecDepth 65536 in
theorem w_c5 : (Jvm.Cond.code ({ cls := "com/example/slackline/slackline/planning/FileOrderSets", name := "clear", desc := "()V" } : Jvm.MethodName) prog_8_method_2_code (1 : Nat) (Option.none : Option Jvm.ClassFile.FieldType)).before args0 about1 = true := code_word (m := ⟨2, 1⟩) (meth := k2m1) (c := k2c1) (by decide +kernel) rfl rfl rfl (by decide +kernel)
set_option maxRecDepth 65536 in
theorem w_c6 : (Jvm.Cond.code ({ cls := "com/example/slackline/slackline/planning/FileOrderSets", name := "inLow", desc := "(II)Z" } : Jvm.MethodName) prog_8_method_8_code (2 : Nat) (Option.some Jvm.ClassFile.FieldType.boolean)).before args0 about1 = true := code_word (m := ⟨2, 4⟩) (meth := k2m4) (c := k2c4) (by decide +kernel) rfl rfl rfl (by decide +kernel)
set_option maxRecDepth 65536 in
theorem w_c7 : (Jvm.Cond.code ({ cls := "com/example/slackline/slackline/planning/FileOrderSets", name := "low", desc := "(I)I" } : Jvm.MethodName) prog_8_method_9_code (2 : Nat) (Option.some Jvm.ClassFile.FieldType.int)).before args0 about1 = true := code_word (m := ⟨2, 5⟩) (meth := k2m5) (c := k2c5) (by decide +kernel) rfl rfl rfl (by decide +kernel)
set_option maxRecDepth 65536 in
theorem w_c8 : (Jvm.Cond.code ({ cls := "com/example/slackline/slackline/planning/FileOrderSets", name := "high", desc := "(I)I" } : Jvm.MethodName) prog_8_method_10_code (2 : Nat) (Option.some Jvm.ClassFile.FieldType.int)).before args0 about1 = true := code_word (m := ⟨2, 6⟩) (meth := k2m6) (c := k2c6) (by decide +kernel) rfl rfl rfl (by decide +kernel)
set_option maxRecDepth 65536 in
theorem w_c9 : (Jvm.Cond.code ({ cls := "com/example/slackline/slackline/planning/FileOrderSets", name := "join", desc := "(II)I" } : Jvm.MethodName) prog_8_method_11_code (5 : Nat) (Option.some Jvm.ClassFile.FieldType.int)).before args0 about1 = true := code_word (m := ⟨2, 7⟩) (meth := k2m7) (c := k2c7) (by decide +kernel) rfl rfl rfl (by decide +kernel)
set_option maxRecDepth 65536 in
theorem w_c10 : (Jvm.Cond.code ({ cls := "com/example/slackline/slackline/planning/FileOrderSets", name := "slot", desc := "(II)I" } : Jvm.MethodName) prog_8_method_13_code (5 : Nat) (Option.some Jvm.ClassFile.FieldType.int)).before args0 about1 = true := code_word (m := ⟨2, 8⟩) (meth := k2m8) (c := k2c8) (by decide +kernel) rfl rfl rfl (by decide +kernel)
set_option maxRecDepth 65536 in
theorem w_c11 : (Jvm.Cond.code ({ cls := "java/lang/Integer", name := "numberOfTrailingZeros", desc := "(I)I" } : Jvm.MethodName) jdk_33_method_48_code (2 : Nat) (Option.some Jvm.ClassFile.FieldType.int)).before args0 about1 = true := code_word (m := ⟨8, 0⟩) (meth := k8m0) (c := k8c0) (by decide +kernel) rfl rfl rfl (by decide +kernel)
def codes1 : List Jvm.Cond := [Jvm.Cond.code x code maxLocals ret, Jvm.Cond.code ({ cls := "com/example/slackline/slackline/planning/FileOrderSets", name := "<init>", desc := "(I)V" } : Jvm.MethodName) prog_8_method_1_code (3 : Nat) (Option.none : Option Jvm.ClassFile.FieldType), Jvm.Cond.code ({ cls := "java/lang/Object", name := "<init>", desc := "()V" } : Jvm.MethodName) object_method_1_code (1 : Nat) (Option.none : Option Jvm.ClassFile.FieldType), Jvm.Cond.code ({ cls := "com/example/slackline/slackline/planning/FileOrderSets", name := "with", desc := "(II)I" } : Jvm.MethodName) prog_8_method_3_code (3 : Nat) (Option.some Jvm.ClassFile.FieldType.int), Jvm.Cond.code ({ cls := "com/example/slackline/slackline/planning/FileOrderSets", name := "with", desc := "(III)I" } : Jvm.MethodName) prog_8_method_5_code (5 : Nat) (Option.some Jvm.ClassFile.FieldType.int), Jvm.Cond.code ({ cls := "com/example/slackline/slackline/planning/FileOrderSets", name := "clear", desc := "()V" } : Jvm.MethodName) prog_8_method_2_code (1 : Nat) (Option.none : Option Jvm.ClassFile.FieldType), Jvm.Cond.code ({ cls := "com/example/slackline/slackline/planning/FileOrderSets", name := "inLow", desc := "(II)Z" } : Jvm.MethodName) prog_8_method_8_code (2 : Nat) (Option.some Jvm.ClassFile.FieldType.boolean), Jvm.Cond.code ({ cls := "com/example/slackline/slackline/planning/FileOrderSets", name := "low", desc := "(I)I" } : Jvm.MethodName) prog_8_method_9_code (2 : Nat) (Option.some Jvm.ClassFile.FieldType.int), Jvm.Cond.code ({ cls := "com/example/slackline/slackline/planning/FileOrderSets", name := "high", desc := "(I)I" } : Jvm.MethodName) prog_8_method_10_code (2 : Nat) (Option.some Jvm.ClassFile.FieldType.int), Jvm.Cond.code ({ cls := "com/example/slackline/slackline/planning/FileOrderSets", name := "join", desc := "(II)I" } : Jvm.MethodName) prog_8_method_11_code (5 : Nat) (Option.some Jvm.ClassFile.FieldType.int), Jvm.Cond.code ({ cls := "com/example/slackline/slackline/planning/FileOrderSets", name := "slot", desc := "(II)I" } : Jvm.MethodName) prog_8_method_13_code (5 : Nat) (Option.some Jvm.ClassFile.FieldType.int), Jvm.Cond.code ({ cls := "java/lang/Integer", name := "numberOfTrailingZeros", desc := "(I)I" } : Jvm.MethodName) jdk_33_method_48_code (2 : Nat) (Option.some Jvm.ClassFile.FieldType.int)]
set_option maxRecDepth 65536 in
theorem codes_eq : words1.filter isCode = codes1 := rfl
theorem w_codes : ∀ c ∈ words1.filter isCode, c.before args0 about1 = true := by
  rw [codes_eq]
  intro c hc
  simp only [codes1, List.mem_cons, List.not_mem_nil, or_false] at hc
  rcases hc with rfl | rfl | rfl | rfl | rfl | rfl | rfl | rfl | rfl | rfl | rfl | rfl
  · exact w_c0
  · exact w_c1
  · exact w_c2
  · exact w_c3
  · exact w_c4
  · exact w_c5
  · exact w_c6
  · exact w_c7
  · exact w_c8
  · exact w_c9
  · exact w_c10
  · exact w_c11
set_option maxRecDepth 65536 in
theorem w_t1 : (words1.take 24).all (fun c => isCode c || c.before args0 about1) = true := by decide +kernel
set_option maxRecDepth 65536 in
theorem w_t2 : ((words1.drop 24).take 24).all (fun c => isCode c || c.before args0 about1) = true := by decide +kernel
set_option maxRecDepth 65536 in
theorem w_t3 : ((words1.drop 24).drop 24).all (fun c => isCode c || c.before args0 about1) = true := by decide +kernel
theorem w_tables : (allAtoms (Jvm.Cond.code x code maxLocals ret :: tables_1)).before args0 about1 = true := by
  rw [allAtoms_all]
  show words1.all (fun c => c.before args0 about1) = true
  refine all_split ?_ w_codes
  rw [← List.take_append_drop 24 words1, List.all_append, w_t1, ← List.take_append_drop 24 (words1.drop 24), List.all_append, w_t2, w_t3]
  rfl
set_option maxRecDepth 65536 in
theorem w_case : (Jvm.Cond.and given_1 narrow_1).before args0 about1 = true := by decide +kernel
theorem w_applies : (headSpec (Jvm.Cond.code x code maxLocals ret :: tables_1) room_1).applies x e0.platform about1 = true :=
  (Spec.applies_iff w_frames).mpr ⟨w_running, w_runnable, w_alone, w_named, w_hears, w_ripe, w_room, w_tables⟩
theorem atStart : AtStart classFile x code maxLocals ret World_1 tables_1 room_1 Calls_1 rest_1 Pre_1 launch0 p0 e0 about1 theMethod args0 below0 :=
  ⟨lists_1, trivial, launch0.admits_env _ _ _, launch0.least_env, fairChoices_fair.cas, fairChoices_fair.clock, w_frames, w_args, w_heap, w_applies, trivial, trivial, w_case⟩
end start1
theorem witness_1 : WitnessClaimed_1 := ⟨start1.p0, start1.e0, start1.about1, start1.theMethod, start1.args0, start1.below0, start1.atStart⟩
end Jvm.Pilot.@@N@@
