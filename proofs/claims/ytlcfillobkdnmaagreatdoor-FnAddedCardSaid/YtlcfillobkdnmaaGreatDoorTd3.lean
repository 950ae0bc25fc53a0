/- Part 3 of the proof's texts, made small by a program. -/
import Derived.Test.YtlcfillobkdnmaaGreatDoorTd2
import GoSem.Core.Float
import Derived.MapKept
import Derived.Laws.Pointers
import Derived.WalkSpells
set_option linter.unusedVariables false
set_option linter.unusedSimpArgs false
set_option maxHeartbeats 4000000
namespace Go.Jw
open Ieee
set_option maxRecDepth 8000
theorem cut_exact (way : Toward) (neg : Bool) (a d : Nat) : way.cut neg (a * 2 ^ d) d = a := by
 rcases Nat.eq_zero_or_pos a with rfl | ha
 ·unfold Toward.cut
  have h : 0 < 1 <<< min d (Nat.log2 (0 * 2 ^ d) + 2) := by rw [Nat.one_shiftLeft]; exact Nat.two_pow_pos _
  cases way <;> simp [Nat.ne_of_gt h]
 ·have hl : d ≤ (a * 2 ^ d).log2 + 2 := by
   have : d ≤ (a * 2 ^ d).log2 := (Nat.le_log2 (Nat.ne_of_gt (Nat.mul_pos ha (Nat.two_pow_pos d)))).2 (Nat.le_mul_of_pos_left _ ha)
   omega
  have hp := Nat.two_pow_pos d
  unfold Toward.cut
  simp only [Nat.min_eq_left hl, Nat.one_shiftLeft, Nat.mul_div_cancel _ hp, Nat.mul_mod_left]
  cases way <;> simp [Nat.ne_of_gt hp]
theorem log2_mul_pow {m : Nat} (h : 0 < m) (k : Nat) : (m * 2 ^ k).log2 = m.log2 + k := by
 have hp := Nat.two_pow_pos k
 refine (Nat.log2_eq_iff (Nat.ne_of_gt (Nat.mul_pos h hp))).2 ⟨?_, ?_⟩
 ·rw [Nat.pow_add]; exact Nat.mul_le_mul_right _ (Nat.log2_self_le (Nat.ne_of_gt h))
 ·have := @Nat.lt_log2_self m
  rw [show m.log2 + k + 1 = (m.log2 + 1) + k by omega, Nat.pow_add]
  exact Nat.mul_lt_mul_of_pos_right this hp
def fill (m : Nat) : Nat := 52 - m.log2
theorem log_le {m : Nat} (h : m < 2 ^ 53) (h0 : 0 < m) : m.log2 ≤ 52 := by
 have := (Nat.log2_lt (Nat.ne_of_gt h0)).2 h
 omega
theorem fill_le (m : Nat) : fill m ≤ 52 := Nat.sub_le ..
theorem fill_lo {m : Nat} (h : m < 2 ^ 53) (h0 : 0 < m) : 2 ^ 52 ≤ m * 2 ^ fill m := by
 have h1 := Nat.log2_self_le (Nat.ne_of_gt h0)
 have h2 := log_le h h0
 have := Nat.mul_le_mul_right (2 ^ fill m) h1
 rw [← Nat.pow_add, show m.log2 + fill m = 52 by unfold fill; omega] at this
 exact this
theorem fill_hi {m : Nat} (h : m < 2 ^ 53) (h0 : 0 < m) : m * 2 ^ fill m < 2 ^ 53 := by
 have h1 := @Nat.lt_log2_self m
 have h2 := log_le h h0
 have := Nat.mul_lt_mul_of_pos_right h1 (Nat.two_pow_pos (fill m))
 rw [← Nat.pow_add, show m.log2 + 1 + fill m = 53 by unfold fill; omega] at this
 exact this
theorem fill_log {m : Nat} (h : m < 2 ^ 53) (h0 : 0 < m) : (m * 2 ^ fill m).log2 = 52 := by
 rw [log2_mul_pow h0]
 have := log_le h h0
 unfold fill; omega
abbrev near (neg : Bool) (m : Nat) (p : Int) : Nat := double.nearest neg m p
theorem near_eq (neg : Bool) {m : Nat} (h0 : 0 < m) (h : m < 2 ^ 53) (k : Nat) {p : Int} (hp : -900 ≤ p) (hq : p ≤ 900) :
    near neg (m * 2 ^ k) (p - k) = double.word neg ((p - fill m + 1074).toNat * 2 ^ 52 + m * 2 ^ fill m) := by
  have hL := log_le h h0
  have hm : m * 2 ^ k ≠ 0 := Nat.ne_of_gt (Nat.mul_pos h0 (Nat.two_pow_pos k))
  have hf : double.fractionBits = 52 := rfl
  have hl : double.leastPlace = -1074 := by decide
  have hb : double.binade = 2 ^ 52 := rfl
  have hi : double.infRung = 2047 * 2 ^ 52 := by decide
  have hlast : max (p - k + ((m * 2 ^ k).log2 : Nat) - (52 : Nat)) (-1074 : Int) = p - fill m := by
    rw [log2_mul_pow h0]
    unfold fill
    omega
  have hkept : Toward.even.cut neg ((m * 2 ^ k) <<< ((p - k) - (p - fill m)).toNat) ((p - fill m) - (p - k)).toNat = m * 2 ^ fill m := by
    rcases Nat.le_total k (fill m) with hk | hk
    · rw [show ((p - k) - (p - fill m)).toNat = fill m - k by omega, show ((p - fill m) - (p - k)).toNat = 0 by omega, Nat.shiftLeft_eq, Nat.mul_assoc, ← Nat.pow_add, show k + (fill m - k) = fill m by omega]
      have := cut_exact .even neg (m * 2 ^ fill m) 0
      rwa [Nat.pow_zero, Nat.mul_one] at this
    · rw [show ((p - k) - (p - fill m)).toNat = 0 by omega, show ((p - fill m) - (p - k)).toNat = k - fill m by omega, Nat.shiftLeft_zero,
        show m * 2 ^ k = (m * 2 ^ fill m) * 2 ^ (k - fill m) by rw [Nat.mul_assoc, ← Nat.pow_add]; congr 2; omega]
      exact cut_exact ..
  unfold near Format.nearest
  rw [if_neg hm]
  simp only [hf, hl, hb, hi, hlast, hkept]
  rw [Nat.min_eq_left]
  · congr 3
  · have h1 := fill_hi h h0
    have h2 : (p - fill m - -1074).toNat ≤ 1974 := by omega
    have h3 := Nat.mul_le_mul_right (2 ^ 52) h2
    exact Nat.le_trans (Nat.add_le_add h3 (Nat.le_of_lt h1)) (by decide)
theorem near_scale (neg : Bool) {m : Nat} (h0 : 0 < m) (h : m < 2 ^ 53) (k : Nat) {p : Int} (hp : -900 ≤ p) (hq : p ≤ 900) : near neg (m * 2 ^ k) (p - k) = near neg m p := by
 have h2 := near_eq neg h0 h 0 hp hq
 rw [near_eq neg h0 h k hp hq, ← h2]
 simp
theorem near_scale' (neg : Bool) {m M : Nat} (h0 : 0 < m) (h : m < 2 ^ 53) (k : Nat) {p P : Int} (hp : -900 ≤ p) (hq : p ≤ 900) (hM : M = m * 2 ^ k) (hP : P = p - k) : near neg M P = near neg m p := by
 subst hM; subst hP; exact near_scale neg h0 h k hp hq
theorem pW (neg : Bool) {m : Nat} (h0 : 0 < m) (h : m < 2 ^ 53) {p : Int} (hp : -900 ≤ p) (hq : p ≤ 900) :
  near neg m p = double.word neg ((p - fill m + 1074).toNat * 2 ^ 52 + m * 2 ^ fill m) := by
 have h2 := near_eq neg h0 h 0 hp hq
 rw [← h2]
 simp
theorem rung_lt {m : Nat} (h0 : 0 < m) (h : m < 2 ^ 53) {p : Int} (hq : p ≤ 900) : (p - fill m + 1074).toNat * 2 ^ 52 + m * 2 ^ fill m < 1976 * 2 ^ 52 := by
 have h1 := fill_hi h h0
 have h2 : (p - fill m + 1074).toNat ≤ 1974 := by omega
 have := Nat.mul_le_mul_right (2 ^ 52) h2
 omega
theorem uX (neg : Bool) {m : Nat} (h0 : 0 < m) (h : m < 2 ^ 53) {p : Int} (hp : -900 ≤ p) (hq : p ≤ 900) :
  double.read (near neg m p) = .number neg (m * 2 ^ fill m) (p - fill m) := by
 have h1 := fill_lo h h0
 have h2 := fill_hi h h0
 have h3 := rung_lt h0 h hq
 have hA : 0 ≤ p - fill m + 1074 := by have := fill_le m; omega
 rw [pW neg h0 h hp hq]
 generalize hK : m * 2 ^ fill m = K at *
 generalize hAA : (p - fill m + 1074).toNat = A at *
 have hl : double.leastPlace = -1074 := by decide
 have hb : double.binade = 2 ^ 52 := rfl
 have hi : double.infRung = 2047 * 2 ^ 52 := by decide
 have hs : double.signWeight = 2 ^ 63 := by decide
 have hneg : (double.word neg (A * 2 ^ 52 + K) / 2 ^ 63 % 2 == 1) = neg := by
  unfold Format.word
  rw [hs]
  cases neg
  ·simp only [Bool.false_eq_true, ↓reduceIte]
   rw [Nat.div_eq_of_lt (by omega)]; rfl
  ·simp only [↓reduceIte]
   rw [show (2 ^ 63 + (A * 2 ^ 52 + K)) / 2 ^ 63 = 1 by omega]; rfl
 have hr : double.word neg (A * 2 ^ 52 + K) % 2 ^ 63 = A * 2 ^ 52 + K := by
  unfold Format.word
  rw [hs]
  cases neg
  ·simp only [Bool.false_eq_true, ↓reduceIte]
   exact Nat.mod_eq_of_lt (by omega)
  ·simp only [↓reduceIte]
   omega
 unfold Format.read
 simp only [hl, hb, hi, hs, hneg, hr]
 rw [if_neg (by omega), if_pos (by omega)]
 congr 1
 ·omega
 ·rw [show (A * 2 ^ 52 + K) / 2 ^ 52 - 1 = A by omega]; omega
theorem write_number (neg : Bool) (m : Nat) (p : Int) : double.write (.number neg m p) = near neg m p := rfl
theorem neg_near {m : Nat} (h0 : 0 < m) (h : m < 2 ^ 53) {p : Int} (hp : -900 ≤ p) (hq : p ≤ 900) : near false m p ^^^ 2 ^ 63 = near true m p := by
  have h3 := rung_lt h0 h hq
  rw [pW _ h0 h hp hq, pW _ h0 h hp hq]
  generalize (p - fill m + 1074).toNat * 2 ^ 52 + m * 2 ^ fill m = R at *
  have hs : double.signWeight = 2 ^ 63 := by decide
  unfold Format.word
  rw [hs]
  simp only [Bool.false_eq_true, ↓reduceIte]
  have hR : R < 2 ^ 63 := by omega
  apply Nat.eq_of_testBit_eq
  intro i
  rw [Nat.testBit_xor, Nat.testBit_two_pow]
  rcases Nat.lt_trichotomy i 63 with hi | hi | hi
  · rw [Nat.testBit_two_pow_add_gt hi]
    simp [show ¬ 63 = i by omega]
  · subst hi
    rw [Nat.testBit_two_pow_add_eq, Nat.testBit_lt_two_pow hR]
    simp
  · rw [Nat.testBit_lt_two_pow (Nat.lt_trans hR (Nat.pow_lt_pow_right (by omega) hi)), Nat.testBit_lt_two_pow (Nat.lt_of_lt_of_le (by omega : 2 ^ 63 + R < 2 ^ 64) (Nat.pow_le_pow_right (by omega) hi))]
    simp [show ¬ 63 = i by omega]
theorem mul_near (s t : Bool) {a b c k : Nat} {p q : Int} (ha : 0 < a) (ha' : a < 2 ^ 53) (hb : 0 < b) (hb' : b < 2 ^ 53) (hc' : c < 2 ^ 53) (hab : a * b = c * 2 ^ k)
    (hp : -400 ≤ p) (hp' : p ≤ 400) (hq : -400 ≤ q) (hq' : q ≤ 400) (hk : k ≤ 100) : double.mul (near s a p) (near t b q) = some (near (s ^^ t) c (p + q + k)) := by
  have hc : 0 < c := by
    rcases Nat.eq_zero_or_pos c with rfl | h
    · have := Nat.mul_pos ha hb; omega
    · exact h
  unfold Format.mul
  rw [uX s ha ha' (by omega) (by omega), uX t hb hb' (by omega) (by omega)]
  show some (near (s ^^ t) _ _) = _
  congr 1
  refine near_scale' _ hc hc' (k + fill a + fill b) (by omega) (by omega) ?_ (by omega)
  rw [Nat.pow_add, Nat.pow_add]
  calc a * 2 ^ fill a * (b * 2 ^ fill b) = (a * b) * (2 ^ fill a * 2 ^ fill b) := by ac_rfl
    _ = c * (2 ^ k * 2 ^ fill a * 2 ^ fill b) := by rw [hab]; ac_rfl
theorem quot_eq (s t : Bool) {A B : Nat} (p q : Int) (hB : 0 < B) (hA : A.log2 = 52) (hl : B.log2 = 52) {X : Nat} (hX : A <<< 54 = X * B) : Datum.quotient 54 (.number s A p) (.number t B q) = some (.number (s ^^ t) (2 * X) (p - q - 54 - 1)) := by
 unfold Datum.quotient
 simp only [if_neg (Nat.ne_of_gt hB), hA, hl, Nat.add_sub_cancel]
 rw [hX, Nat.mul_div_cancel _ hB, Nat.mul_mod_left]
 rfl
theorem quot_num {a b c h x y : Nat} (hab : a * 2 ^ h = b * c) (hh : h ≤ 2) (hy : y ≤ 52) : (a * 2 ^ x) <<< 54 = (c * 2 ^ (54 + x - h - y)) * (b * 2 ^ y) := by
 rw [Nat.shiftLeft_eq]
 have e1 : a * 2 ^ x * 2 ^ 54 = a * 2 ^ h * 2 ^ (54 + x - h - y) * 2 ^ y := by
  rw [Nat.mul_assoc, Nat.mul_assoc (a * 2 ^ h), Nat.mul_assoc a, ← Nat.pow_add, ← Nat.pow_add, ← Nat.pow_add]
  congr 2; omega
 rw [e1, hab]; ac_rfl
theorem c_pos {a b c h : Nat} (ha : 0 < a) (hab : a * 2 ^ h = b * c) : 0 < c := by
 rcases Nat.eq_zero_or_pos c with rfl | hc
 ·have := Nat.mul_pos ha (Nat.two_pow_pos h); rw [hab] at this; exact absurd this (by simp)
 ·exact hc
theorem pow_two_c (c X : Nat) : 2 * (c * 2 ^ X) = c * 2 ^ (X + 1) := by
 rw [Nat.pow_succ]
 ac_rfl
theorem div_near (s t : Bool) {a b c h : Nat} {p q : Int} (ha : 0 < a) (ha' : a < 2 ^ 53) (hb : 0 < b) (hb' : b < 2 ^ 53) (hc' : c < 2 ^ 53) (hab : a * 2 ^ h = b * c) (hh : h ≤ 2)
  (hp : -400 ≤ p) (hp' : p ≤ 400) (hq : -400 ≤ q) (hq' : q ≤ 400) : double.div (near s a p) (near t b q) = some (near (s ^^ t) c (p - q - h)) := by
 have hd := quot_num (x := fill a) (y := fill b) hab hh (fill_le b)
 have hq2 := quot_eq s t (p - fill a) (q - fill b) (Nat.mul_pos hb (Nat.two_pow_pos _)) (fill_log ha' ha) (fill_log hb' hb) hd
 have h54 : double.fractionBits + 2 = 54 := rfl
 have hfa := fill_le a
 have hfb := fill_le b
 unfold Format.div
 rw [uX s ha ha' (by omega) (by omega), uX t hb hb' (by omega) (by omega), h54, hq2, Option.map_some, write_number]
 exact congrArg some (near_scale' _ (c_pos ha hab) hc' (54 + fill a - h - fill b + 1) (by omega) (by omega) (pow_two_c _ _) (by omega))
theorem signed_scale (s : Bool) (m j k : Nat) : signed s (m * 2 ^ k) j = signed s m (k + j) := by
 unfold signed
 rw [Nat.shiftLeft_eq, Nat.shiftLeft_eq, Nat.mul_assoc, ← Nat.pow_add]
theorem qM (s : Bool) (m j k : Nat) : signed s m (j + k) = signed s m j * ((2 ^ k : Nat) : Int) := by
 unfold signed
 rw [Nat.shiftLeft_eq, Nat.shiftLeft_eq, Nat.pow_add, ← Nat.mul_assoc]
 cases s
 ·simp only [Bool.false_eq_true, ↓reduceIte]; rw [Int.natCast_mul]
 ·simp only [↓reduceIte]; rw [Int.natCast_mul, Int.neg_mul]
theorem compare_mul (x y : Int) {k : Int} (hk : 0 < k) : compare (x * k) (y * k) = compare x y := by
 simp only [Int.compare_eq_ite_lt]
 have h1 : x * k < y * k ↔ x < y := ⟨fun h => Int.lt_of_mul_lt_mul_right h (Int.le_of_lt hk), fun h => Int.mul_lt_mul_of_pos_right h hk⟩
 have h2 : y * k < x * k ↔ y < x := ⟨fun h => Int.lt_of_mul_lt_mul_right h (Int.le_of_lt hk), fun h => Int.mul_lt_mul_of_pos_right h hk⟩
 simp only [h1, h2]
theorem order_near (s t : Bool) {a b : Nat} {p q B : Int} (ha : 0 < a) (ha' : a < 2 ^ 53) (hb : 0 < b) (hb' : b < 2 ^ 53)
    (hp : -900 ≤ p) (hp' : p ≤ 900) (hq : -900 ≤ q) (hq' : q ≤ 900) (hB : B ≤ p) (hB' : B ≤ q) : double.order (near s a p) (near t b q) = some (compare (signed s a (p - B).toNat) (signed t b (q - B).toNat)) := by
  unfold Format.order
  rw [uX s ha ha' hp hp', uX t hb hb' hq hq']
  unfold Datum.order
  simp only []
  congr 1
  rw [signed_scale, signed_scale]
  generalize hm : min (p - fill a) (q - fill b) = M
  have h1 : M ≤ p - fill a := by omega
  have h2 : M ≤ q - fill b := by omega
  rcases Int.le_total M B with h | h
  · rw [show fill a + (p - fill a - M).toNat = (p - B).toNat + (B - M).toNat by omega, show fill b + (q - fill b - M).toNat = (q - B).toNat + (B - M).toNat by omega, qM, qM]
    exact compare_mul _ _ (Int.natCast_pos.2 (Nat.two_pow_pos _))
  · rw [show (p - B).toNat = (fill a + (p - fill a - M).toNat) + (M - B).toNat by omega, show (q - B).toNat = (fill b + (q - fill b - M).toNat) + (M - B).toNat by omega, qM s a (fill a + (p - fill a - M).toNat) (M - B).toNat, qM t b (fill b + (q - fill b - M).toNat) (M - B).toNat]
    exact (compare_mul _ _ (Int.natCast_pos.2 (Nat.two_pow_pos _))).symm
theorem toInt_near (s : Bool) {m j : Nat} (h0 : 0 < m) (h : m < 2 ^ 53) (hj : j ≤ 2) : (double.read (near s m (-(j : Int)))).toInt .zero = some (if s then -((m / 2 ^ j : Nat) : Int) else ((m / 2 ^ j : Nat) : Int)) := by
 rw [uX s h0 h (by omega) (by omega)]
 unfold Datum.toInt Datum.integral
 have hf := fill_le m
 simp only []
 rw [show (-(j : Int) - fill m).toNat = 0 by omega, show (-(-(j : Int) - fill m)).toNat = j + fill m by omega, Nat.shiftLeft_zero]
 have hcut : Toward.zero.cut s (m * 2 ^ fill m) (j + fill m) = m / 2 ^ j := by
  unfold Toward.cut
  rw [fill_log h h0, Nat.min_eq_left (by omega), Nat.one_shiftLeft, Nat.pow_add]
  simp only [Bool.toNat_false, Nat.add_zero]
  exact Nat.mul_div_mul_right _ _ (Nat.two_pow_pos _)
 rw [hcut]
 unfold signed
 simp
theorem read_zero : double.read 0 = .number false 0 (-1074) := by decide
theorem order_zero (s : Bool) {a : Nat} {p : Int} (ha : 0 < a) (ha' : a < 2 ^ 53) (hp : -900 ≤ p) (hp' : p ≤ 900) : double.order (near s a p) 0 = some (if s then .lt else .gt) := by
 unfold Format.order
 rw [uX s ha ha' hp hp', read_zero]
 unfold Datum.order signed
 simp only [Nat.shiftLeft_eq, Nat.zero_mul, Bool.false_eq_true, ↓reduceIte]
 have := Nat.mul_pos (Nat.mul_pos ha (Nat.two_pow_pos (fill a))) (Nat.two_pow_pos (p - fill a - min (p - fill a) (-1074)).toNat)
 cases s
 ·simp only [Bool.false_eq_true, ↓reduceIte, Int.compare_eq_ite_lt]
  rw [if_neg (by omega), if_pos (by omega)]
 ·simp only [↓reduceIte, Int.compare_eq_ite_lt]
  rw [if_pos (by omega)]
end Go.Jw

namespace Go.Jw
open Ieee
def qw (n : Int) : Nat := near (decide (n < 0)) n.natAbs (-2)
theorem qw_parse (s : Bool) {m a n : Nat} (hn : 0 < n) (hn' : n < 2 ^ 53) (hm : m < 2 ^ 53) (hb : 10 ^ a < 2 ^ 53) (h : m * 4 = 10 ^ a * n) : double.div (near s m 0) (near false (10 ^ a) 0) = some (near s n (-2)) := by
 have hp : 0 < 10 ^ a := Nat.pow_pos (by omega)
 have h0 : 0 < m := by
  rcases Nat.eq_zero_or_pos m with rfl | h0
  ·have := Nat.mul_pos hp hn; omega
  ·exact h0
 have := div_near (p := 0) (q := 0) (h := 2) s false h0 hm hp hb hn' h (by omega) (by omega) (by omega) (by omega) (by omega)
 simpa using this
section
variable {n : Int} (h0 : n ≠ 0) (h1 : -1000000000 < n) (h2 : n < 1000000000)
 include h0 h1 h2
theorem qabs : 0 < n.natAbs ∧ n.natAbs < 2 ^ 53 ∧ n.natAbs < 1000000000 := by omega
theorem qw_big (t : Bool) : double.order (qw n) (near t 1000000000000 0) = some (if t then .gt else .lt) := by
 obtain ⟨a1, a2, a3⟩ := qabs h0 h1 h2
 unfold qw
 rw [order_near (B := -2) _ t a1 a2 (by omega) (by omega) (by omega) (by omega) (by omega) (by omega) (by omega) (by omega)]
 congr 1
 rw [show ((-2 : Int) - -2).toNat = 0 from rfl, show ((0 : Int) - -2).toNat = 2 from rfl]
 unfold signed
 simp only [Nat.shiftLeft_eq]
 cases t <;> by_cases hs : n < 0 <;> simp only [hs, decide_true, decide_false, Bool.false_eq_true, ↓reduceIte, Int.compare_eq_ite_lt] <;> (repeat' split) <;> first | rfl | omega
theorem qw_mul4 : double.mul (qw n) (near false 4 0) = some (near (decide (n < 0)) n.natAbs 0) := by
 obtain ⟨a1, a2, a3⟩ := qabs h0 h1 h2
 have := mul_near (p := -2) (q := 0) (k := 2) (c := n.natAbs) (decide (n < 0)) false a1 a2 (b := 4) (by omega) (by omega) a2 rfl (by omega) (by omega) (by omega) (by omega) (by omega)
 unfold qw
 rw [this]
 simp
theorem q4_int : (double.read (near (decide (n < 0)) n.natAbs 0)).toInt .zero = some n := by
 obtain ⟨a1, a2, a3⟩ := qabs h0 h1 h2
 have := toInt_near (decide (n < 0)) (j := 0) a1 a2 (by omega)
 rw [show (-((0 : Nat) : Int)) = 0 from rfl] at this
 rw [this]
 simp only [Nat.pow_zero, Nat.div_one, Option.some.injEq]
 by_cases hs : n < 0 <;> simp [hs] <;> omega
theorem q4_eq : double.order (near (decide (n < 0)) n.natAbs 0) (near (decide (n < 0)) n.natAbs 0) = some .eq := by
 obtain ⟨a1, a2, a3⟩ := qabs h0 h1 h2
 rw [order_near (B := 0) _ _ a1 a2 a1 a2 (by omega) (by omega) (by omega) (by omega) (by omega) (by omega)]
 simp [Int.compare_eq_ite_lt]
theorem qw_int : (double.read (qw n)).toInt .zero = some (n.tdiv 4) := by
 obtain ⟨a1, a2, a3⟩ := qabs h0 h1 h2
 have := toInt_near (decide (n < 0)) (j := 2) a1 a2 (by omega)
 rw [show (-((2 : Nat) : Int)) = -2 from rfl] at this
 unfold qw
 rw [this, Option.some.injEq]
 by_cases hs : n < 0
 ·simp only [hs, decide_true, ↓reduceIte]
  have h3 : n = -(n.natAbs : Int) := by omega
  conv => rhs; rw [h3]
  rw [Int.neg_tdiv, show ((4 : Int)) = ((4 : Nat) : Int) from rfl, ← Int.ofNat_tdiv]
 ·simp only [hs, decide_false, Bool.false_eq_true, ↓reduceIte]
  have h3 : n = (n.natAbs : Int) := by omega
  conv => rhs; rw [h3]
  rw [show ((4 : Int)) = ((4 : Nat) : Int) from rfl, ← Int.ofNat_tdiv]
theorem qw_ne (hm : n.tmod 4 ≠ 0) : double.order (qw n) (near (decide (n.tdiv 4 < 0)) (n.tdiv 4).natAbs 0) ≠ some .eq := by
  obtain ⟨a1, a2, a3⟩ := qabs h0 h1 h2
  have e := Int.tdiv_mul_add_tmod n 4
  rcases Decidable.em (n.tdiv 4 = 0) with hz | hz
  · rw [hz]
    have := order_zero (decide (n < 0)) a1 a2 (p := -2) (by omega) (by omega)
    unfold qw
    rw [show near (decide ((0 : Int) < 0)) (0 : Int).natAbs 0 = 0 from rfl, this]
    split <;> simp
  · have b1 : 0 < (n.tdiv 4).natAbs := by omega
    have b2 : (n.tdiv 4).natAbs < 2 ^ 53 := by
      have := Int.natAbs_tdiv_le_natAbs n 4
      omega
    unfold qw
    rw [order_near (B := -2) _ _ a1 a2 b1 b2 (by omega) (by omega) (by omega) (by omega) (by omega) (by omega)]
    rw [show ((-2 : Int) - -2).toNat = 0 from rfl, show ((0 : Int) - -2).toNat = 2 from rfl]
    have s1 : signed (decide (n < 0)) n.natAbs 0 = n := by
      unfold signed
      rw [Nat.shiftLeft_zero]
      by_cases hs : n < 0 <;> simp [hs] <;> omega
    generalize n.tdiv 4 = z at *
    have s2 : signed (decide (z < 0)) z.natAbs 2 = 4 * z := by
      unfold signed
      rw [Nat.shiftLeft_eq]
      by_cases hs : z < 0 <;> simp only [hs, decide_true, decide_false, Bool.false_eq_true, ↓reduceIte] <;> omega
    rw [s1, s2]
    simp only [Int.compare_eq_ite_lt]
    (repeat' split) <;> first | (exfalso; omega) | simp
end
theorem c_1e12 : near false 1000000000000 0 = 4786511204640096256 := by decide
theorem c_1e12n : near true 1000000000000 0 = 14009883241494872064 := by decide
theorem c_4 : near false 4 0 = 4616189618054758400 := by decide
theorem c_10 : near false (10 ^ 1) 0 = 4621819117588971520 := by decide
theorem c_100 : near false (10 ^ 2) 0 = 4636737291354636288 := by decide
theorem c_1000000 : near false (10 ^ 6) 0 = 4696837146684686336 := by decide
end Go.Jw

namespace Go.Jw
open Go Go.RowKit

inductive EV where
  | str (s : ByteArray)
  | bool (x : Bool)
inductive FVal where
  | text (s : ByteArray)
  | bool (x : Bool)
  | int (n : Int)
  | numI (n : Int)
  | numF (f : Nat)
  | sbS (b : Nat)
  | sbB (x : Bool)
  | itS (b : Nat)
  | itL (bs : List Nat)
  | texts (l : List ByteArray)
  | named (l : List (ByteArray × Nat))
  | deps (l : List (ByteArray × List ByteArray))
  | enums (l : List EV)
  | tyS (s : ByteArray)
  | tyL (l : List ByteArray)
  | list (bs : List Nat)
  | one (b : Nat)
  | any
abbrev ptr (b : Nat) : Value := .pointer (some ⟨b, 0, none⟩)
def PtsTo (w : World) (ok : Nat → Prop) (p : Addr) (v : Value) : Prop := ok p.block ∧ w.cell? p = some v
def BlkP (w : World) (ok : Nat → Prop) (b : Nat) (cs : List Value) (T : TypeId) : Prop := ok b ∧ w.heap[b]? = some (.cells cs.toArray T (0, 0))
def RowPtrs (w : World) (ok : Nat → Prop) (v : Value) (bs : List Nat) : Prop := ∃ A c, v = .slice A bs.length c ∧ bs.length ≤ c ∧ c ≤ maxLen ∧ ∀ i b, bs[i]? = some b → ∃ a, A = some a ∧ ok a.block ∧ w.cell? (a.add i) = some (ptr b)
def EvP (w : World) (ok : Nat → Prop) (e : EV) (u v : Value) : Prop := match e with
  | .str s => ∃ p, u = .pointer (some p) ∧ v = .pointer none ∧ s.size ≤ maxLen ∧ PtsTo w ok p (.string s)
  | .bool x => ∃ p, u = .pointer none ∧ v = .pointer (some p) ∧ PtsTo w ok p (.bool x)
def FvP (w : World) (ok : Nat → Prop) : FVal → Value → Prop
  | .text s, v => ∃ p, v = .pointer (some p) ∧ s.size ≤ maxLen ∧ PtsTo w ok p (.string s)
  | .bool x, v => ∃ p, v = .pointer (some p) ∧ PtsTo w ok p (.bool x)
  | .int n, v => ∃ p, v = .pointer (some p) ∧ PtsTo w ok p (.int .i64 n)
  | .numI n, v => ∃ b p, v = ptr b ∧ BlkP w ok b [.pointer (some p), .pointer none] 213 ∧ PtsTo w ok p (.int .i64 n)
  | .numF f, v => ∃ b p, v = ptr b ∧ BlkP w ok b [.pointer none, .pointer (some p)] 213 ∧ PtsTo w ok p (.float .f64 f)
  | .sbS c, v => ∃ b, v = ptr b ∧ BlkP w ok b [ptr c, .pointer none] 185
  | .sbB x, v => ∃ b p, v = ptr b ∧ BlkP w ok b [.pointer none, .pointer (some p)] 185 ∧ PtsTo w ok p (.bool x)
  | .itS c, v => ∃ b, v = ptr b ∧ BlkP w ok b [ptr c, .pointer none] 187
  | .itL bs, v => ∃ b p sl, v = ptr b ∧ BlkP w ok b [.pointer none, .pointer (some p)] 187 ∧ PtsTo w ok p sl ∧ RowPtrs w ok sl bs
  | .texts l, v => ∃ p sl, v = .pointer (some p) ∧ PtsTo w ok p sl ∧ StrsP w ok sl l
  | .named l, v => ∃ p sl nbs, v = .pointer (some p) ∧ PtsTo w ok p sl ∧ RowPtrs w ok sl nbs ∧ nbs.length = l.length ∧ ∀ (i : Nat) (q : ByteArray × Nat) (nb : Nat), l[i]? = some q → nbs[i]? = some nb → q.1.size ≤ maxLen ∧ BlkP w ok nb [.string q.1, ptr q.2] 179
  | .deps l, v => ∃ p sl nbs, v = .pointer (some p) ∧ PtsTo w ok p sl ∧ RowPtrs w ok sl nbs ∧ nbs.length = l.length ∧ ∀ (i : Nat) (q : ByteArray × List ByteArray) (nb : Nat), l[i]? = some q → nbs[i]? = some nb →
      ∃ tb p2 sl2, q.1.size ≤ maxLen ∧ BlkP w ok nb [.string q.1, ptr tb] 192 ∧ BlkP w ok tb [.pointer none, .pointer (some p2)] 194 ∧ PtsTo w ok p2 sl2 ∧ StrsP w ok sl2 q.2
  | .enums l, v => ∃ p A c, v = .pointer (some p) ∧ PtsTo w ok p (.slice A l.length c) ∧ l.length ≤ c ∧ c ≤ maxLen ∧ ∀ i e, l[i]? = some e → ∃ a u u', A = some a ∧ ok a.block ∧ w.cell? (a.add (i * 2)) = some u ∧ w.cell? (a.add (i * 2 + 1)) = some u' ∧ EvP w ok e u u'
  | .tyS s, v => ∃ b p, v = ptr b ∧ s.size ≤ maxLen ∧ BlkP w ok b [.pointer (some p), .pointer none] 196 ∧ PtsTo w ok p (.string s)
  | .tyL l, v => ∃ b p sl, v = ptr b ∧ BlkP w ok b [.pointer none, .pointer (some p)] 196 ∧ PtsTo w ok p sl ∧ StrsP w ok sl l
  | .list bs, v => ∃ p sl, v = .pointer (some p) ∧ PtsTo w ok p sl ∧ RowPtrs w ok sl bs
  | .one c, v => v = ptr c
  | .any, v => ∃ p, v = .pointer (some p)
section
variable {w w' : World} {ok ok' : Nat → Prop}
theorem PtsTo.mono (h1 : ∀ k, ok k → ok' k) (h2 : ∀ k, ok k → w'.heap[k]? = w.heap[k]?) {p : Addr} {v : Value} (h : PtsTo w ok p v) : PtsTo w' ok' p v :=
 ⟨h1 _ h.1, by rw [uW (w := w) (w' := w') (h2 _ h.1)]; exact h.2⟩
theorem BlkP.mono (h1 : ∀ k, ok k → ok' k) (h2 : ∀ k, ok k → w'.heap[k]? = w.heap[k]?) {b : Nat} {cs : List Value} {T : TypeId} (h : BlkP w ok b cs T) : BlkP w' ok' b cs T := ⟨h1 _ h.1, (h2 _ h.1).trans h.2⟩
theorem rY (h2 : ∀ k, ok k → w'.heap[k]? = w.heap[k]?) {a : Addr} {i : Nat} {v : Value} (hok : ok a.block) (h : w.cell? (a.add i) = some v) : w'.cell? (a.add i) = some v := by
 rw [uW (w := w) (w' := w') (a := a.add i) (by rw [uD]; exact h2 _ hok)]; exact h
theorem RowPtrs.mono (h1 : ∀ k, ok k → ok' k) (h2 : ∀ k, ok k → w'.heap[k]? = w.heap[k]?) {v : Value} {bs : List Nat} (h : RowPtrs w ok v bs) : RowPtrs w' ok' v bs := by
 obtain ⟨A, c, hv, hl, hc, hk⟩ := h
 refine ⟨A, c, hv, hl, hc, fun i b hi => ?_⟩
 obtain ⟨a, ha, hok, hcell⟩ := hk i b hi
 exact ⟨a, ha, h1 _ hok, rY h2 hok hcell⟩
theorem EvP.mono (h1 : ∀ k, ok k → ok' k) (h2 : ∀ k, ok k → w'.heap[k]? = w.heap[k]?) {e : EV} {u v : Value} (h : EvP w ok e u v) : EvP w' ok' e u v := by
  cases e with
  | str s => obtain ⟨p, a, b, c, d⟩ := h; exact ⟨p, a, b, c, d.mono h1 h2⟩
  | bool x => obtain ⟨p, a, b, d⟩ := h; exact ⟨p, a, b, d.mono h1 h2⟩
theorem FvP.mono (h1 : ∀ k, ok k → ok' k) (h2 : ∀ k, ok k → w'.heap[k]? = w.heap[k]?) {f : FVal} {v : Value} (h : FvP w ok f v) : FvP w' ok' f v := by
  cases f with
  | text s => obtain ⟨p, a, b, c⟩ := h; exact ⟨p, a, b, c.mono h1 h2⟩
  | bool x => obtain ⟨p, a, b⟩ := h; exact ⟨p, a, b.mono h1 h2⟩
  | int n => obtain ⟨p, a, b⟩ := h; exact ⟨p, a, b.mono h1 h2⟩
  | numI n => obtain ⟨b, p, a, c, d⟩ := h; exact ⟨b, p, a, c.mono h1 h2, d.mono h1 h2⟩
  | numF n => obtain ⟨b, p, a, c, d⟩ := h; exact ⟨b, p, a, c.mono h1 h2, d.mono h1 h2⟩
  | sbS c => obtain ⟨b, a, d⟩ := h; exact ⟨b, a, d.mono h1 h2⟩
  | sbB x => obtain ⟨b, p, a, c, d⟩ := h; exact ⟨b, p, a, c.mono h1 h2, d.mono h1 h2⟩
  | itS c => obtain ⟨b, a, d⟩ := h; exact ⟨b, a, d.mono h1 h2⟩
  | itL bs => obtain ⟨b, p, sl, a, c, d, e⟩ := h; exact ⟨b, p, sl, a, c.mono h1 h2, d.mono h1 h2, e.mono h1 h2⟩
  | texts l => obtain ⟨p, sl, a, d, e⟩ := h; exact ⟨p, sl, a, d.mono h1 h2, e.mono h1 h2⟩
  | named l =>
    obtain ⟨p, sl, nbs, a, d, e, f, g⟩ := h
    exact ⟨p, sl, nbs, a, d.mono h1 h2, e.mono h1 h2, f, fun i q nb hq hnb => ⟨(g i q nb hq hnb).1, (g i q nb hq hnb).2.mono h1 h2⟩⟩
  | deps l =>
    obtain ⟨p, sl, nbs, a, d, e, f, g⟩ := h
    refine ⟨p, sl, nbs, a, d.mono h1 h2, e.mono h1 h2, f, fun i q nb hq hnb => ?_⟩
    obtain ⟨tb, p2, sl2, a1, a2, a3, a4, a5⟩ := g i q nb hq hnb
    exact ⟨tb, p2, sl2, a1, a2.mono h1 h2, a3.mono h1 h2, a4.mono h1 h2, a5.mono h1 h2⟩
  | enums l =>
    obtain ⟨p, A, c, a, d, e, f, g⟩ := h
    refine ⟨p, A, c, a, d.mono h1 h2, e, f, fun i q hq => ?_⟩
    obtain ⟨a, u, u', a1, a2, a3, a4, a5⟩ := g i q hq
    exact ⟨a, u, u', a1, h1 _ a2, rY h2 a2 a3, rY h2 a2 a4, a5.mono h1 h2⟩
  | tyS s => obtain ⟨b, p, a, c, d, e⟩ := h; exact ⟨b, p, a, c, d.mono h1 h2, e.mono h1 h2⟩
  | tyL l => obtain ⟨b, p, sl, a, c, d, e⟩ := h; exact ⟨b, p, sl, a, c.mono h1 h2, d.mono h1 h2, e.mono h1 h2⟩
  | list bs => obtain ⟨p, sl, a, d, e⟩ := h; exact ⟨p, sl, a, d.mono h1 h2, e.mono h1 h2⟩
  | one c => exact h
  | any => exact h
end
def DA.fv (v : Value) (f : FVal) : DA := ⟨fun w ok => FvP w ok f v, fun h1 h2 h => FvP.mono h1 h2 h⟩
def DA.pts (p : Addr) (v : Value) : DA := ⟨fun w ok => PtsTo w ok p v, fun h1 h2 h => PtsTo.mono h1 h2 h⟩
def DA.rowp (v : Value) (bs : List Nat) : DA := ⟨fun w ok => RowPtrs w ok v bs, fun h1 h2 h => RowPtrs.mono h1 h2 h⟩
abbrev Flds := Nat → Option FVal
def CellsP (w : World) (ok : Nat → Prop) (mb : Nat) (cs : List Value) (f : Flds) : Prop :=
  cs.length = 37 ∧ cs[0]? = some (.map (some mb)) ∧ ∀ i, 1 ≤ i → i ≤ 36 → ∃ u, cs[i]? = some u ∧ match f i with
    | none => u = .pointer none
    | some v => FvP w ok v u
theorem CellsP.mono {w w' : World} {ok ok' : Nat → Prop} (h1 : ∀ k, ok k → ok' k) (h2 : ∀ k, ok k → w'.heap[k]? = w.heap[k]?) {mb : Nat} {cs : List Value} {f : Flds} (h : CellsP w ok mb cs f) : CellsP w' ok' mb cs f := by
  refine ⟨h.1, h.2.1, fun i hi hj => ?_⟩
  obtain ⟨u, hu, hm⟩ := h.2.2 i hi hj
  refine ⟨u, hu, ?_⟩
  cases hf : f i with
  | none => rw [hf] at hm; exact hm
  | some v => rw [hf] at hm; exact FvP.mono h1 h2 hm
def DA.flds (mb : Nat) (cs : List Value) (f : Flds) : DA := ⟨fun w ok => CellsP w ok mb cs f, fun h1 h2 h => CellsP.mono h1 h2 h⟩
abbrev Gr := List (Nat × List Value × Flds)
def DA.graph (mb : Nat) (G : Gr) : DA := ⟨fun w ok => ∀ g ∈ G, CellsP w ok mb g.2.1 g.2.2, fun h1 h2 h g hg => CellsP.mono h1 h2 (h g hg)⟩
def Gr.blks (G : Gr) : List (Nat × List Value) := G.map fun g => (g.1, g.2.1)
def Gr.at (G : Gr) (b : Nat) (f : Flds) : Prop := ∃ cs, (b, cs, f) ∈ G
def Flds.set (f : Flds) (i : Nat) (v : FVal) : Flds := fun j => if j = i then some v else f j

section rules
variable {P : Program} {n : Nat} {F : List Nat} {c : Ctx F} {ops : Array Oper} {d : Nat} {T : TypeId} {l : List Oper} {k : List KI} {Q : Post} {e : Env} {M : List HA} {D : List DA}
theorem zY (x : DA) (h : ∀ (w : World) (ok : Nat → Prop), (∀ d ∈ D, d.p w ok) → x.p w ok) (next : Run P n c k Q e M (x :: D)) : Run P n c k Q e M D :=
 uL (D' := x :: D) (fun w ok hd y hy => (List.mem_cons.1 hy).elim (fun e => e ▸ h w ok hd) (hd y)) next
theorem ops_more (x : DA) (h : ∀ (w : World) (ok : Nat → Prop), (∀ d ∈ D, d.p w ok) → x.p w ok) (next : RunOps P n c ops l k Q e M (x :: D)) : RunOps P n c ops l k Q e M D :=
 ops_know (D' := x :: D) (fun w ok hd y hy => (List.mem_cons.1 hy).elim (fun e => e ▸ h w ok hd) (hd y)) next
theorem dget {w : World} {ok : Nat → Prop} (h : ∀ d ∈ D, d.p w ok) (j : Nat) {x : DA} (hj : D[j]? = some x) : x.p w ok := h x (List.mem_of_getElem? hj)
theorem xC (j : Nat) {x : Operand} {p : Addr} {v : Value} (hT : Scalar P T) (hd : Nat.blt d n = true) (hx : ev e x = some (.pointer (some p))) (hj : D[j]? = some (.pts p v))
  (next : RunOps P n c ops l k Q ((d, v) :: e) M D) {T' : TypeId} : RunOp P n c ops (some d) (.load T x) T' l k Q e M D :=
 yN hT hd hx (fun _ h => (h.dt hj).2) next
theorem setMany_one (cs : List Value) (o : Nat) (v : Value) (h : o < cs.length) : setMany cs o [v] = cs.set o v := by
 simp [setMany]
theorem tJ (i : Nat) {x y : Operand} {b o : Nat} {cs : List Value} {U S : TypeId} {v : Value} (hx : ev e x = some (.pointer (some ⟨b, o, none⟩))) (hy : ev e y = some v) (hi : M[i]? = some (.blk b cs U)) (hv : v.cells = #[v]) (h1 : v.oneCell' = true)
  (hs : ∃ i, P.info? S = some i ∧ i.size = 1) (hl : o < cs.length) (next : RunOps P n c ops l k Q e (M.set i (.blk b (cs.set o v) U)) D) :
  RunOp P n c ops none (.store S x y) T l k Q e M D := by
 refine zG i (vs := [v]) hx hy hi (by rw [hv]) (by simpa using hs) (by simp; omega) (by simp [h1]) rfl ?_
 rw [setMany_one cs o v hl]
 exact next
theorem vM (i : Nat) {x : Operand} {b o : Nat} {cs : List Value} {U : TypeId} {v : Value} (hT : Scalar P T) (hd : Nat.blt d n = true) (hx : ev e x = some (.pointer (some ⟨b, o, none⟩))) (hi : M[i]? = some (.blk b cs U)) (hv : cs[o]? = some v)
  (next : RunOps P n c ops l k Q ((d, v) :: e) M D) {T' : TypeId} : RunOp P n c ops (some d) (.load T x) T' l k Q e M D :=
 yN hT hd hx (fun _ h => cellM h hi hv) next
theorem uA (i j : Nat) {U : TypeId} {gs gs' : List (Nat × List Value)} (hi : M[i]? = some (.many U gs)) (hj : (M.eraseIdx i)[j]? = some (.many U gs')) (next : Run P n c k Q e (.many U (gs ++ gs') :: (M.eraseIdx i).eraseIdx j) D) : Run P n c k Q e M D := by
 intro a w hf
 have h1 := hf.toFitsW.perm ((xQ hi).trans ((xQ hj).cons _))
 refine next a w (hf.world ⟨h1.chg, ?_, ?_, ?_, ?_⟩)
 ·intro x hx
  rcases List.mem_cons.1 hx with rfl | hx
  ·intro g hg
   rcases List.mem_append.1 hg with hg | hg
   ·exact (h1.own _ List.mem_cons_self : (HA.many U gs).holds w) g hg
   ·exact (h1.own _ (List.mem_cons_of_mem _ List.mem_cons_self) : (HA.many U gs').holds w) g hg
  ·exact h1.own x (List.mem_cons_of_mem _ (List.mem_cons_of_mem _ hx))
 ·have := h1.nodup
  simpa [foots, HA.foot] using this
 ·intro b hb
  exact h1.foot b (by simpa [foots, HA.foot] using hb)
 ·intro x hx
  refine x.mono (fun q hq => ⟨hq.1, hq.2.1, ?_⟩) (fun _ _ => rfl) (h1.dat x hx)
  have := hq.2.2
  simpa [foots, HA.foot] using this
theorem run_toMany (i : Nat) {b : Nat} {cs : List Value} {U : TypeId} (hi : M[i]? = some (.blk b cs U)) (next : Run P n c k Q e (.many U [(b, cs)] :: M.eraseIdx i) D) : Run P n c k Q e M D := by
 intro a w hf
 have h1 := hf.toFitsW.perm (xQ hi)
 refine next a w (hf.world ⟨h1.chg, ?_, ?_, ?_, ?_⟩)
 ·intro x hx
  rcases List.mem_cons.1 hx with rfl | hx
  ·intro g hg
   rcases List.mem_singleton.1 hg with rfl
   exact (h1.own _ List.mem_cons_self : (HA.blk b cs U).holds w)
  ·exact h1.own x (List.mem_cons_of_mem _ hx)
 ·simpa [foots, HA.foot] using h1.nodup
 ·intro q hq; exact h1.foot q (by simpa [foots, HA.foot] using hq)
 ·intro x hx
  refine x.mono (fun q hq => ⟨hq.1, hq.2.1, ?_⟩) (fun _ _ => rfl) (h1.dat x hx)
  have := hq.2.2
  simpa [foots, HA.foot] using this
theorem tK (U : TypeId) (next : Run P n c k Q e (.many U [] :: M) D) : Run P n c k Q e M D :=
 fun a w hf => next a w (hf.world (hf.toFitsW.cons0 (by simp [HA.foot]) (by intro g hg; cases hg)))
theorem wR (i j : Nat) {mb : Nat} {G G' : Gr} (hi : D[i]? = some (.graph mb G)) (hj : D[j]? = some (.graph mb G')) (next : Run P n c k Q e M (.graph mb (G ++ G') :: D)) : Run P n c k Q e M D :=
 zY (.graph mb (G ++ G')) (fun w ok h g hg => (List.mem_append.1 hg).elim (fun h1 => (dget h i hi : (DA.graph mb G).p w ok) g h1) (fun h1 => (dget h j hj : (DA.graph mb G').p w ok) g h1)) next
theorem run_graph1 (j : Nat) {mb b : Nat} {cs : List Value} {f : Flds} (hj : D[j]? = some (.flds mb cs f)) (next : Run P n c k Q e M (.graph mb [(b, cs, f)] :: D)) : Run P n c k Q e M D :=
 zY (.graph mb [(b, cs, f)]) (fun w ok h g hg => by rcases List.mem_singleton.1 hg with rfl; exact dget h j hj) next
theorem xD {x y : Operand} {S E sz by_ : Nat} (hS : SliceOf P S E sz by_) (hd : Nat.blt d n = true) (hx : ev e x = some (.int .i64 0)) (hy : ev e y = some (.int .i64 0))
  (next : ∀ b, RunOps P n c ops l k Q ((d, .slice (some ⟨b, 0, none⟩) 0 0) :: e) (.row (some ⟨b, 0, none⟩) 0 0 E sz [] :: M) D) : RunOp P n c ops (some d) (.makeSlice S x y) T l k Q e M D := by
 obtain ⟨ti, z, hu, hinf, hs1, hb1, hz, hzs, hsz0⟩ := hS
 intro a w hf
 have hw : IntKind.i64.wrap 0 = 0 := by decide
 have hr0 : ∀ f : Nat → Value, (Array.range 0).map f = #[] := fun f => Array.eq_empty_of_size_eq_zero (by simp)
 have hb : (Instr.makeSlice S (.int .i64 0) (.int .i64 0)).run P w = .ok (.slice (some ⟨w.heap.size, 0, none⟩) 0 0) (w.alloc (.cells #[] E (0, 0))) := by
  simp [Instr.makeSlice, run_underlying hu, asInt, asIntOf, typeInfo, hinf, hw, askRoom, xM hinf, newRow, newObj, Sem.run, hr0]
 have hrun : (execOp a.eval (opr (some d) (.makeSlice S x y) T)).run P w = .ok (.value (.slice (some ⟨w.heap.size, 0, none⟩) 0 0)) (w.alloc (.cells #[] E (0, 0))) := by
  simp only [execOp, opr, hf.ev hx, hf.ev hy, Sem.run_bind, hb, Result.andThen_ok, Sem.run_pure]
 unfold Oper.wp
 rw [hrun]
 have hx2 : (HA.row (some ⟨w.heap.size, 0, none⟩) 0 0 E sz []).holds (w.alloc (.cells #[] E (0, 0))) := by
  refine ⟨by simp, .inr ⟨w.heap.size, 0, #[], rfl, Nat.zero_le _, ?_, Nat.le_refl _, by simp [maxLen], by simp, by simp⟩⟩
  show (w.heap.push _)[w.heap.size]? = _
  simp
 exact next w.heap.size _ _ ((hf.world (hf.toFitsW.new _ hx2 rfl)).put hd _)
theorem op_makeMap {S : TypeId} (hd : Nat.blt d n = true) (next : ∀ b, RunOps P n c ops l k Q ((d, .map (some b)) :: e) (.obj b (.map #[] 0) :: M) D) : RunOp P n c ops (some d) (.makeMap S none) T l k Q e M D := by
 intro a w hf
 have hrun : (execOp a.eval (opr (some d) (.makeMap S none) T)).run P w = .ok (.value (.map (some w.heap.size))) (w.alloc (.map #[] 0)) := by
  simp [execOp, opr, Instr.makeMap, newObj, Sem.run]
 unfold Oper.wp
 rw [hrun]
 have hx2 : (HA.obj w.heap.size (.map #[] 0)).holds (w.alloc (.map #[] 0)) := by
  show (w.heap.push _)[w.heap.size]? = _
  simp
 exact next w.heap.size _ _ ((hf.world (hf.toFitsW.new _ hx2 rfl)).put hd _)
theorem vS {w : World} {ok : Nat → Prop} {b o : Nat} {cs : List Value} {U : TypeId} {v : Value} (h : (DA.dblk b cs U).p w ok) (hv : cs[o]? = some v) : PtsTo w ok ⟨b, o, none⟩ v := ⟨h.1, by rw [uJ h.2]; exact hv⟩
def RF (f : FVal) (u : Value) (D' : List DA) : Prop := ∃ p, u = .pointer (some p) ∧ D' = [.fv u f]
theorem run_fset (i j o : Nat) {mb : Nat} {cs : List Value} {f : Flds} {u : Value} {v : FVal} (hi : D[i]? = some (.flds mb cs f)) (hj : D[j]? = some (.fv u v)) (ho : 1 ≤ o) (next : Run P n c k Q e M (.flds mb (cs.set o u) (f.set o v) :: D)) : Run P n c k Q e M D :=
 zY (.flds mb (cs.set o u) (f.set o v)) (fun w ok h => by
  have h1 : CellsP w ok mb cs f := dget h i hi
  have h2 : FvP w ok v u := dget h j hj
  refine ⟨by simp [h1.1], by rw [List.getElem?_set_ne (by omega)]; exact h1.2.1, fun q hq hq2 => ?_⟩
  by_cases hoq : q = o
  ·subst hoq
   exact ⟨u, by rw [List.getElem?_set_self (by rw [h1.1]; omega)], by simp only [Flds.set, if_true]; exact h2⟩
  ·obtain ⟨u', hu', hm⟩ := h1.2.2 q hq hq2
   exact ⟨u', by rw [List.getElem?_set_ne (by omega)]; exact hu', by simp only [Flds.set, if_neg hoq]; exact hm⟩) next
end rules
end Go.Jw

namespace Go.Jw
open Go Go.RowKit Go.Proofs
set_option maxRecDepth 8000
def kwIdx (key : ByteArray) : Nat :=
 if key = ⟨#[36, 115, 99, 104, 101, 109, 97]⟩ then 1 else
 if key = ⟨#[105, 100]⟩ then 2 else
 if key = ⟨#[109, 117, 108, 116, 105, 112, 108, 101, 79, 102]⟩ then 6 else
 if key = ⟨#[109, 97, 120, 105, 109, 117, 109]⟩ then 7 else
 if key = ⟨#[101, 120, 99, 108, 117, 115, 105, 118, 101, 77, 97, 120, 105, 109, 117, 109]⟩ then 8 else
 if key = ⟨#[109, 105, 110, 105, 109, 117, 109]⟩ then 9 else
 if key = ⟨#[101, 120, 99, 108, 117, 115, 105, 118, 101, 77, 105, 110, 105, 109, 117, 109]⟩ then 10 else
 if key = ⟨#[109, 97, 120, 76, 101, 110, 103, 116, 104]⟩ then 11 else
 if key = ⟨#[109, 105, 110, 76, 101, 110, 103, 116, 104]⟩ then 12 else
 if key = ⟨#[112, 97, 116, 116, 101, 114, 110]⟩ then 13 else
 if key = ⟨#[97, 100, 100, 105, 116, 105, 111, 110, 97, 108, 73, 116, 101, 109, 115]⟩ then 14 else
 if key = ⟨#[105, 116, 101, 109, 115]⟩ then 15 else
 if key = ⟨#[109, 97, 120, 73, 116, 101, 109, 115]⟩ then 16 else
 if key = ⟨#[109, 105, 110, 73, 116, 101, 109, 115]⟩ then 17 else
 if key = ⟨#[117, 110, 105, 113, 117, 101, 73, 116, 101, 109, 115]⟩ then 18 else
 if key = ⟨#[109, 97, 120, 80, 114, 111, 112, 101, 114, 116, 105, 101, 115]⟩ then 19 else
 if key = ⟨#[109, 105, 110, 80, 114, 111, 112, 101, 114, 116, 105, 101, 115]⟩ then 20 else
 if key = ⟨#[114, 101, 113, 117, 105, 114, 101, 100]⟩ then 21 else
 if key = ⟨#[97, 100, 100, 105, 116, 105, 111, 110, 97, 108, 80, 114, 111, 112, 101, 114, 116, 105, 101, 115]⟩ then 22 else
 if key = ⟨#[112, 114, 111, 112, 101, 114, 116, 105, 101, 115]⟩ then 23 else
 if key = ⟨#[112, 97, 116, 116, 101, 114, 110, 80, 114, 111, 112, 101, 114, 116, 105, 101, 115]⟩ then 24 else
 if key = ⟨#[100, 101, 112, 101, 110, 100, 101, 110, 99, 105, 101, 115]⟩ then 25 else
 if key = ⟨#[101, 110, 117, 109]⟩ then 26 else
 if key = ⟨#[116, 121, 112, 101]⟩ then 27 else
 if key = ⟨#[97, 108, 108, 79, 102]⟩ then 28 else
 if key = ⟨#[97, 110, 121, 79, 102]⟩ then 29 else
 if key = ⟨#[111, 110, 101, 79, 102]⟩ then 30 else
 if key = ⟨#[110, 111, 116]⟩ then 31 else
 if key = ⟨#[100, 101, 102, 105, 110, 105, 116, 105, 111, 110, 115]⟩ then 32 else
 if key = ⟨#[116, 105, 116, 108, 101]⟩ then 33 else
 if key = ⟨#[100, 101, 115, 99, 114, 105, 112, 116, 105, 111, 110]⟩ then 34 else
 if key = ⟨#[100, 101, 102, 97, 117, 108, 116]⟩ then 35 else
 if key = ⟨#[102, 111, 114, 109, 97, 116]⟩ then 36 else
 if key = ⟨#[36, 114, 101, 102]⟩ then 3 else 0
def shIdx (i : Nat) : Int := match i with
  | 1 => 1
  | 2 => 1
  | 3 => 1
  | 6 => 3
  | 7 => 3
  | 8 => 2
  | 9 => 3
  | 10 => 2
  | 11 => 4
  | 12 => 4
  | 13 => 1
  | 14 => 6
  | 15 => 7
  | 16 => 4
  | 17 => 4
  | 18 => 2
  | 19 => 4
  | 20 => 4
  | 21 => 8
  | 22 => 6
  | 23 => 9
  | 24 => 9
  | 25 => 10
  | 26 => 11
  | 27 => 12
  | 28 => 13
  | 29 => 13
  | 30 => 13
  | 31 => 5
  | 32 => 9
  | 33 => 1
  | 34 => 1
  | 35 => 14
  | 36 => 1
  | _ => 0
theorem kw_sh {key : ByteArray} (h : kwIdx key ≠ 0) : shapeOf key = shIdx (kwIdx key) := by
 unfold kwIdx at h ⊢
 by_cases e1 : key = ⟨#[36, 115, 99, 104, 101, 109, 97]⟩
 ·subst e1; decide +kernel
 rw [if_neg e1] at h ⊢
 by_cases e2 : key = ⟨#[105, 100]⟩
 ·subst e2; decide +kernel
 rw [if_neg e2] at h ⊢
 by_cases e6 : key = ⟨#[109, 117, 108, 116, 105, 112, 108, 101, 79, 102]⟩
 ·subst e6; decide +kernel
 rw [if_neg e6] at h ⊢
 by_cases e7 : key = ⟨#[109, 97, 120, 105, 109, 117, 109]⟩
 ·subst e7; decide +kernel
 rw [if_neg e7] at h ⊢
 by_cases e8 : key = ⟨#[101, 120, 99, 108, 117, 115, 105, 118, 101, 77, 97, 120, 105, 109, 117, 109]⟩
 ·subst e8; decide +kernel
 rw [if_neg e8] at h ⊢
 by_cases e9 : key = ⟨#[109, 105, 110, 105, 109, 117, 109]⟩
 ·subst e9; decide +kernel
 rw [if_neg e9] at h ⊢
 by_cases e10 : key = ⟨#[101, 120, 99, 108, 117, 115, 105, 118, 101, 77, 105, 110, 105, 109, 117, 109]⟩
 ·subst e10; decide +kernel
 rw [if_neg e10] at h ⊢
 by_cases e11 : key = ⟨#[109, 97, 120, 76, 101, 110, 103, 116, 104]⟩
 ·subst e11; decide +kernel
 rw [if_neg e11] at h ⊢
 by_cases e12 : key = ⟨#[109, 105, 110, 76, 101, 110, 103, 116, 104]⟩
 ·subst e12; decide +kernel
 rw [if_neg e12] at h ⊢
 by_cases e13 : key = ⟨#[112, 97, 116, 116, 101, 114, 110]⟩
 ·subst e13; decide +kernel
 rw [if_neg e13] at h ⊢
 by_cases e14 : key = ⟨#[97, 100, 100, 105, 116, 105, 111, 110, 97, 108, 73, 116, 101, 109, 115]⟩
 ·subst e14; decide +kernel
 rw [if_neg e14] at h ⊢
 by_cases e15 : key = ⟨#[105, 116, 101, 109, 115]⟩
 ·subst e15; decide +kernel
 rw [if_neg e15] at h ⊢
 by_cases e16 : key = ⟨#[109, 97, 120, 73, 116, 101, 109, 115]⟩
 ·subst e16; decide +kernel
 rw [if_neg e16] at h ⊢
 by_cases e17 : key = ⟨#[109, 105, 110, 73, 116, 101, 109, 115]⟩
 ·subst e17; decide +kernel
 rw [if_neg e17] at h ⊢
 by_cases e18 : key = ⟨#[117, 110, 105, 113, 117, 101, 73, 116, 101, 109, 115]⟩
 ·subst e18; decide +kernel
 rw [if_neg e18] at h ⊢
 by_cases e19 : key = ⟨#[109, 97, 120, 80, 114, 111, 112, 101, 114, 116, 105, 101, 115]⟩
 ·subst e19; decide +kernel
 rw [if_neg e19] at h ⊢
 by_cases e20 : key = ⟨#[109, 105, 110, 80, 114, 111, 112, 101, 114, 116, 105, 101, 115]⟩
 ·subst e20; decide +kernel
 rw [if_neg e20] at h ⊢
 by_cases e21 : key = ⟨#[114, 101, 113, 117, 105, 114, 101, 100]⟩
 ·subst e21; decide +kernel
 rw [if_neg e21] at h ⊢
 by_cases e22 : key = ⟨#[97, 100, 100, 105, 116, 105, 111, 110, 97, 108, 80, 114, 111, 112, 101, 114, 116, 105, 101, 115]⟩
 ·subst e22; decide +kernel
 rw [if_neg e22] at h ⊢
 by_cases e23 : key = ⟨#[112, 114, 111, 112, 101, 114, 116, 105, 101, 115]⟩
 ·subst e23; decide +kernel
 rw [if_neg e23] at h ⊢
 by_cases e24 : key = ⟨#[112, 97, 116, 116, 101, 114, 110, 80, 114, 111, 112, 101, 114, 116, 105, 101, 115]⟩
 ·subst e24; decide +kernel
 rw [if_neg e24] at h ⊢
 by_cases e25 : key = ⟨#[100, 101, 112, 101, 110, 100, 101, 110, 99, 105, 101, 115]⟩
 ·subst e25; decide +kernel
 rw [if_neg e25] at h ⊢
 by_cases e26 : key = ⟨#[101, 110, 117, 109]⟩
 ·subst e26; decide +kernel
 rw [if_neg e26] at h ⊢
 by_cases e27 : key = ⟨#[116, 121, 112, 101]⟩
 ·subst e27; decide +kernel
 rw [if_neg e27] at h ⊢
 by_cases e28 : key = ⟨#[97, 108, 108, 79, 102]⟩
 ·subst e28; decide +kernel
 rw [if_neg e28] at h ⊢
 by_cases e29 : key = ⟨#[97, 110, 121, 79, 102]⟩
 ·subst e29; decide +kernel
 rw [if_neg e29] at h ⊢
 by_cases e30 : key = ⟨#[111, 110, 101, 79, 102]⟩
 ·subst e30; decide +kernel
 rw [if_neg e30] at h ⊢
 by_cases e31 : key = ⟨#[110, 111, 116]⟩
 ·subst e31; decide +kernel
 rw [if_neg e31] at h ⊢
 by_cases e32 : key = ⟨#[100, 101, 102, 105, 110, 105, 116, 105, 111, 110, 115]⟩
 ·subst e32; decide +kernel
 rw [if_neg e32] at h ⊢
 by_cases e33 : key = ⟨#[116, 105, 116, 108, 101]⟩
 ·subst e33; decide +kernel
 rw [if_neg e33] at h ⊢
 by_cases e34 : key = ⟨#[100, 101, 115, 99, 114, 105, 112, 116, 105, 111, 110]⟩
 ·subst e34; decide +kernel
 rw [if_neg e34] at h ⊢
 by_cases e35 : key = ⟨#[100, 101, 102, 97, 117, 108, 116]⟩
 ·subst e35; decide +kernel
 rw [if_neg e35] at h ⊢
 by_cases e36 : key = ⟨#[102, 111, 114, 109, 97, 116]⟩
 ·subst e36; decide +kernel
 rw [if_neg e36] at h ⊢
 by_cases e3 : key = ⟨#[36, 114, 101, 102]⟩
 ·subst e3; decide +kernel
 rw [if_neg e3] at h ⊢
 ·exact absurd rfl h
abbrev k1 : ByteArray := ⟨#[36, 115, 99, 104, 101, 109, 97]⟩
abbrev k2 : ByteArray := ⟨#[105, 100]⟩
abbrev k6 : ByteArray := ⟨#[109, 117, 108, 116, 105, 112, 108, 101, 79, 102]⟩
abbrev k7 : ByteArray := ⟨#[109, 97, 120, 105, 109, 117, 109]⟩
abbrev k8 : ByteArray := ⟨#[101, 120, 99, 108, 117, 115, 105, 118, 101, 77, 97, 120, 105, 109, 117, 109]⟩
abbrev k9 : ByteArray := ⟨#[109, 105, 110, 105, 109, 117, 109]⟩
abbrev k10 : ByteArray := ⟨#[101, 120, 99, 108, 117, 115, 105, 118, 101, 77, 105, 110, 105, 109, 117, 109]⟩
abbrev k11 : ByteArray := ⟨#[109, 97, 120, 76, 101, 110, 103, 116, 104]⟩
abbrev k12 : ByteArray := ⟨#[109, 105, 110, 76, 101, 110, 103, 116, 104]⟩
abbrev k13 : ByteArray := ⟨#[112, 97, 116, 116, 101, 114, 110]⟩
abbrev k14 : ByteArray := ⟨#[97, 100, 100, 105, 116, 105, 111, 110, 97, 108, 73, 116, 101, 109, 115]⟩
abbrev k15 : ByteArray := ⟨#[105, 116, 101, 109, 115]⟩
abbrev k16 : ByteArray := ⟨#[109, 97, 120, 73, 116, 101, 109, 115]⟩
abbrev k17 : ByteArray := ⟨#[109, 105, 110, 73, 116, 101, 109, 115]⟩
abbrev k18 : ByteArray := ⟨#[117, 110, 105, 113, 117, 101, 73, 116, 101, 109, 115]⟩
abbrev k19 : ByteArray := ⟨#[109, 97, 120, 80, 114, 111, 112, 101, 114, 116, 105, 101, 115]⟩
abbrev k20 : ByteArray := ⟨#[109, 105, 110, 80, 114, 111, 112, 101, 114, 116, 105, 101, 115]⟩
abbrev k21 : ByteArray := ⟨#[114, 101, 113, 117, 105, 114, 101, 100]⟩
abbrev k22 : ByteArray := ⟨#[97, 100, 100, 105, 116, 105, 111, 110, 97, 108, 80, 114, 111, 112, 101, 114, 116, 105, 101, 115]⟩
abbrev k23 : ByteArray := ⟨#[112, 114, 111, 112, 101, 114, 116, 105, 101, 115]⟩
abbrev k24 : ByteArray := ⟨#[112, 97, 116, 116, 101, 114, 110, 80, 114, 111, 112, 101, 114, 116, 105, 101, 115]⟩
abbrev k25 : ByteArray := ⟨#[100, 101, 112, 101, 110, 100, 101, 110, 99, 105, 101, 115]⟩
abbrev k26 : ByteArray := ⟨#[101, 110, 117, 109]⟩
abbrev k27 : ByteArray := ⟨#[116, 121, 112, 101]⟩
abbrev k28 : ByteArray := ⟨#[97, 108, 108, 79, 102]⟩
abbrev k29 : ByteArray := ⟨#[97, 110, 121, 79, 102]⟩
abbrev k30 : ByteArray := ⟨#[111, 110, 101, 79, 102]⟩
abbrev k31 : ByteArray := ⟨#[110, 111, 116]⟩
abbrev k32 : ByteArray := ⟨#[100, 101, 102, 105, 110, 105, 116, 105, 111, 110, 115]⟩
abbrev k33 : ByteArray := ⟨#[116, 105, 116, 108, 101]⟩
abbrev k34 : ByteArray := ⟨#[100, 101, 115, 99, 114, 105, 112, 116, 105, 111, 110]⟩
abbrev k35 : ByteArray := ⟨#[100, 101, 102, 97, 117, 108, 116]⟩
abbrev k36 : ByteArray := ⟨#[102, 111, 114, 109, 97, 116]⟩
abbrev k3 : ByteArray := ⟨#[36, 114, 101, 102]⟩
def All2 {α β : Type} (R : α → β → Prop) (l : List α) (l' : List β) : Prop := l.length = l'.length ∧ ∀ (i : Nat) a b, l[i]? = some a → l'[i]? = some b → R a b
theorem All2.mono {α β : Type} {R R' : α → β → Prop} {l : List α} {l' : List β} (h : ∀ a b, b ∈ l' → R a b → R' a b) (h2 : All2 R l l') : All2 R' l l' :=
 ⟨h2.1, fun i a b ha hb => h a b (List.mem_of_getElem? hb) (h2.2 i a b ha hb)⟩
theorem All2.nil {α β : Type} (R : α → β → Prop) : All2 R [] [] := ⟨rfl, fun i a b h => by simp at h⟩
theorem All2.snoc {α β : Type} {R : α → β → Prop} {l : List α} {l' : List β} {a : α} {b : β} (h : All2 R l l') (hab : R a b) : All2 R (l ++ [a]) (l' ++ [b]) := by
 refine ⟨by simp [h.1], fun i x y hx hy => ?_⟩
 rcases Nat.lt_trichotomy i l.length with hi | hi | hi
 ·rw [List.getElem?_append_left hi] at hx
  rw [List.getElem?_append_left (by rw [← h.1]; exact hi)] at hy
  exact h.2 i x y hx hy
 ·subst hi
  rw [List.getElem?_append_right (Nat.le_refl _)] at hx
  rw [List.getElem?_append_right (by rw [h.1]; exact Nat.le_refl _)] at hy
  simp at hx
  simp [h.1] at hy
  subst hx; subst hy; exact hab
 ·rw [List.getElem?_eq_none (by simp; omega)] at hx; cases hx
def quartBits (n : Int) : Nat := qw n
def evOf (v : V) : EV := if v.kind = 3 then .str v.text else .bool (decide (v.num = 1))
def FvRel (U : Nat → V → Prop) (sh : Int) (v : V) : FVal → Prop
  | .text s => sh = 1 ∧ s = v.text
  | .bool x => sh = 2 ∧ x = decide (v.num = 1)
  | .int n => sh = 4 ∧ n = v.num
  | .numI n => sh = 3 ∧ v.kind = 2 ∧ n = v.num
  | .numF f => sh = 3 ∧ v.kind = 6 ∧ f = quartBits v.num
  | .sbS b => sh = 6 ∧ v.kind = 5 ∧ U b v
  | .sbB x => sh = 6 ∧ v.kind = 1 ∧ x = decide (v.num = 1)
  | .itS b => sh = 7 ∧ v.kind = 5 ∧ U b v
  | .itL bs => sh = 7 ∧ v.kind = 4 ∧ All2 U bs v.items
  | .texts l => sh = 8 ∧ l = v.items.map V.text
  | .named l => sh = 9 ∧ ∃ ps : List (ByteArray × V), ps.Perm (v.keys.zip v.items) ∧ All2 (fun (q : ByteArray × Nat) p => q.1 = p.1 ∧ U q.2 p.2) l ps
  | .deps l => sh = 10 ∧ ∃ ps : List (ByteArray × V), ps.Perm (v.keys.zip v.items) ∧ l = ps.map (fun p => (p.1, p.2.items.map V.text))
  | .enums l => sh = 11 ∧ l = v.items.map evOf
  | .tyS s => sh = 12 ∧ v.kind = 3 ∧ s = v.text
  | .tyL l => sh = 12 ∧ v.kind = 4 ∧ l = v.items.map V.text
  | .list bs => sh = 13 ∧ All2 U bs v.items
  | .one b => sh = 5 ∧ U b v
  | .any => sh = 14
theorem FvRel.mono {U U' : Nat → V → Prop} {sh : Int} {v : V} {f : FVal} (h : ∀ b x, SizeOf.sizeOf x ≤ SizeOf.sizeOf v → U b x → U' b x) (hf : FvRel U sh v f) : FvRel U' sh v f := by
  have hi : ∀ b x, x ∈ v.items → U b x → U' b x := fun b x hx => h b x (Nat.le_of_lt (yE hx))
  cases f with
  | sbS b => exact ⟨hf.1, hf.2.1, h b v (Nat.le_refl _) hf.2.2⟩
  | itS b => exact ⟨hf.1, hf.2.1, h b v (Nat.le_refl _) hf.2.2⟩
  | itL bs => exact ⟨hf.1, hf.2.1, hf.2.2.mono hi⟩
  | named l => obtain ⟨h1, ps, h2, h3⟩ := hf; exact ⟨h1, ps, h2, h3.mono fun q p hp hq => ⟨hq.1, hi _ _ (List.of_mem_zip (h2.mem_iff.1 hp)).2 hq.2⟩⟩
  | list bs => exact ⟨hf.1, hf.2.mono hi⟩
  | one b => exact ⟨hf.1, h b v (Nat.le_refl _) hf.2⟩
  | text s => exact hf
  | bool x => exact hf
  | int n => exact hf
  | numI n => exact hf
  | numF n => exact hf
  | sbB x => exact hf
  | texts l => exact hf
  | deps l => exact hf
  | enums l => exact hf
  | tyS s => exact hf
  | tyL l => exact hf
  | any => exact hf
def FldRel (U : Nat → V → Prop) (v : V) (i : Nat) : Option FVal → Prop
  | none => ∀ key, kwIdx key = i → getV v key = none
  | some fv => ∃ key x, kwIdx key = i ∧ getV v key = some x ∧ FvRel U (shIdx i) x fv
theorem rZ {v x : V} {key : ByteArray} (h : getV v key = some x) : x ∈ v.items := by
 unfold getV at h
 split at h
 ·cases h
 ·exact List.mem_of_getElem? h
theorem FldRel.mono {U U' : Nat → V → Prop} {v : V} {i : Nat} {o : Option FVal} (h : ∀ b x, SizeOf.sizeOf x < SizeOf.sizeOf v → U b x → U' b x) (hf : FldRel U v i o) : FldRel U' v i o := by
  cases o with
  | none => exact hf
  | some fv =>
    obtain ⟨key, x, h1, h2, h3⟩ := hf
    exact ⟨key, x, h1, h2, h3.mono fun b y hy => h b y (Nat.lt_of_le_of_lt hy (yE (rZ h2)))⟩
instance : Inhabited (Nat → Prop) := ⟨fun _ => True⟩
noncomputable def Unf (G : Gr) : V → Nat → Prop := V.fix (α := Nat → Prop) (fun v r b => ∃ f, G.at b f ∧ ∀ i, 1 ≤ i → i ≤ 36 → FldRel (fun b x => r x b) v i (f i))
theorem tC (G : Gr) (v : V) (b : Nat) : Unf G v b ↔ ∃ f, G.at b f ∧ ∀ i, 1 ≤ i → i ≤ 36 → FldRel (fun b x => Unf G x b) v i (f i) := by
 have := V.fix_eq (α := Nat → Prop) (G := fun v r b => ∃ f, G.at b f ∧ ∀ i, 1 ≤ i → i ≤ 36 → FldRel (fun b x => r x b) v i (f i)) (fun t g g' h => by
  funext b
  apply propext
  constructor
  ·rintro ⟨f, h1, h2⟩
   exact ⟨f, h1, fun i hi hj => (h2 i hi hj).mono fun b x hx hu => by rw [← h x hx]; exact hu⟩
  ·rintro ⟨f, h1, h2⟩
   exact ⟨f, h1, fun i hi hj => (h2 i hi hj).mono fun b x hx hu => by rw [h x hx]; exact hu⟩) v
 show V.fix (α := Nat → Prop) _ v b ↔ _
 rw [this]
 rfl
theorem Unf.mono {G G' : Gr} (h : ∀ g ∈ G, g ∈ G') (v : V) : ∀ b, Unf G v b → Unf G' v b := by
 refine V.indS (p := fun v => ∀ b, Unf G v b → Unf G' v b) (fun v IH b hb => ?_) v
 obtain ⟨f, ⟨cs, h1⟩, h2⟩ := (tC G v b).1 hb
 exact (tC G' v b).2 ⟨f, ⟨cs, h _ h1⟩, fun i hi hj => (h2 i hi hj).mono fun b x hx hu => IH x hx b hu⟩
def Pl (v : V) : Prop := ∃ d, IsPlain d v
theorem Pl.wf {v : V} (h : Pl v) : Wf v := h.elim fun _ h => h.wf
theorem Pl.num {v : V} (h : Pl v) : NumOk v := h.elim fun _ h => h.num
theorem Pl.item {v : V} (h : Pl v) : ∀ x ∈ v.items, Pl x := by
  obtain ⟨d, h⟩ := h
  obtain ⟨q, m, s, ks, ts⟩ := v
  intro x hx
  cases d with
  | zero =>
    obtain ⟨_, h2, _⟩ := h
    simp only [V.items] at h2 hx
    subst h2; cases hx
  | succ d =>
    rcases h with ⟨_, h2, _⟩ | ⟨_, _, h3⟩
    · simp only [V.items] at h2 hx
      subst h2; cases hx
    · exact ⟨d, h3 x hx⟩
theorem Pl.keys {v : V} (h : Pl v) (hk : v.kind = 5) : KeysOk v.keys := by
  obtain ⟨d, h⟩ := h
  obtain ⟨q, m, s, ks, ts⟩ := v
  simp only [V.kind] at hk
  subst hk
  cases d with
  | zero => exact absurd h (vY (.inr rfl))
  | succ d => exact keys_of ((xY (.inr rfl)).1 h).1 rfl
def prs (back : Bool) (v : V) : List (ByteArray × V) := if back then (v.keys.zip v.items).reverse else v.keys.zip v.items
def RelAt (G : Gr) (back : Bool) (v : V) (i : Nat) (f : Flds) : Prop := ∀ q, 1 ≤ q → q ≤ 36 → match f q with
  | none => ∀ p ∈ (prs back v).take i, kwIdx p.1 ≠ q
  | some fv => ∃ p ∈ (prs back v).take i, kwIdx p.1 = q ∧ FvRel (fun b x => Unf G x b) (shIdx q) p.2 fv
theorem RelAt.mono {G G' : Gr} (h : ∀ g ∈ G, g ∈ G') {back : Bool} {v : V} {i : Nat} {f : Flds} (hr : RelAt G back v i f) : RelAt G' back v i f := by
  intro q h1 h2
  have := hr q h1 h2
  cases hf : f q with
  | none => rw [hf] at this; exact this
  | some fv =>
    rw [hf] at this
    obtain ⟨p, h3, h4, h5⟩ := this
    exact ⟨p, h3, h4, h5.mono fun b x _ hu => Unf.mono h x b hu⟩
theorem RelAt.zero (G : Gr) (back : Bool) (v : V) : RelAt G back v 0 (fun _ => none) := by
 intro q _ _; simp
theorem RelAt.step {G : Gr} {back : Bool} {v : V} {i : Nat} {f : Flds} {p : ByteArray × V} {fv : FVal} (hr : RelAt G back v i f) (hp : (prs back v)[i]? = some p) (hf : FvRel (fun b x => Unf G x b) (shIdx (kwIdx p.1)) p.2 fv) : RelAt G back v (i + 1) (f.set (kwIdx p.1) fv) := by
  have ht : (prs back v).take (i + 1) = (prs back v).take i ++ [p] := by rw [List.take_add_one, hp]; rfl
  intro q h1 h2
  by_cases hq : q = kwIdx p.1
  · subst hq
    simp only [Flds.set, if_true]
    exact ⟨p, by rw [ht]; simp, rfl, hf⟩
  · simp only [Flds.set, if_neg hq]
    have := hr q h1 h2
    cases hfq : f q with
    | none =>
      rw [hfq] at this
      intro p' hp'
      rw [ht, List.mem_append, List.mem_singleton] at hp'
      rcases hp' with hp' | rfl
      · exact this p' hp'
      · exact fun e => hq e.symm
    | some fv' =>
      rw [hfq] at this
      obtain ⟨p', h3, h4⟩ := this
      exact ⟨p', by rw [ht]; exact List.mem_append_left _ h3, h4⟩
theorem RelAt.skip {G : Gr} {back : Bool} {v : V} {i : Nat} {f : Flds} {p : ByteArray × V} (hr : RelAt G back v i f) (hp : (prs back v)[i]? = some p) (hf : kwIdx p.1 = 0) : RelAt G back v (i + 1) f := by
  have ht : (prs back v).take (i + 1) = (prs back v).take i ++ [p] := by rw [List.take_add_one, hp]; rfl
  intro q h1 h2
  have := hr q h1 h2
  cases hfq : f q with
  | none =>
    rw [hfq] at this
    intro p' hp'
    rw [ht, List.mem_append, List.mem_singleton] at hp'
    rcases hp' with hp' | rfl
    · exact this p' hp'
    · omega
  | some fv' =>
    rw [hfq] at this
    obtain ⟨p', h3, h4⟩ := this
    exact ⟨p', by rw [ht]; exact List.mem_append_left _ h3, h4⟩
end Go.Jw

namespace Go.Jw
open Go Go.RowKit Go.Proofs
set_option maxRecDepth 8000
open Go.Proofs
theorem fun181 : Fun Tryz.prog 181 := ⟨_, Tryz.func181, by kernel_rfl, rfl⟩
abbrev fbB (x : Bool) : ByteArray := ⟨(Lib.formatBool x).toArray⟩
theorem c181 (x : Bool) : CtV Tryz.prog 181 #[.string (fbB x)] [] (.tuple #[.bool x, .nilIface]) :=
  pF fun181 fun w ok h => (Tryz.strconv_ParseBool (fbB x) x (by cases x <;> decide) w).mono (by
    rintro e w' ⟨rfl, rfl⟩
    exact ⟨rfl, Chg.refl _ _⟩)
theorem strs_step {l : List ByteArray} {i : Nat} (hi : i < l.length) : (l.take i).map Value.string ++ [.string l[i]] = (l.take (i + 1)).map Value.string := uM hi
theorem szs_step {l : List ByteArray} {i : Nat} (hi : i < l.length) (h : ∀ s ∈ l.take i, s.size ≤ maxLen) (hs : l[i].size ≤ maxLen) : ∀ s ∈ l.take (i + 1), s.size ≤ maxLen := by
 intro s hm
 rw [List.take_add_one, List.getElem?_eq_getElem hi, List.mem_append] at hm
 rcases hm with hm | hm
 ·exact h s hm
 ·simp at hm; rw [hm]; exact hs
def evY : EV → Y
  | .str s => scal tStr s
  | .bool x => scal tBool (fbB x)
theorem evY_kind (e : EV) : (evY e).kind = 8 := by cases e <;> rfl
theorem evY_str {e : EV} (h : (evY e).tag = tStr) : ∃ s, e = .str s := by
  cases e with
  | str s => exact ⟨s, rfl⟩
  | bool x => exact absurd h (by simp only [evY, scal, Y.tag]; decide)
theorem evY_bool {e : EV} (h : ¬ (evY e).tag = tStr) : ∃ x, e = .bool x := by
  cases e with
  | str s => exact absurd rfl h
  | bool x => exact ⟨x, rfl⟩
def EvsP (w : World) (ok : Nat → Prop) (xs : List Value) (l : List EV) : Prop := xs.length = 2 * l.length ∧ ∀ (i : Nat) e, l[i]? = some e → ∃ u u', xs[i * 2]? = some u ∧ xs[i * 2 + 1]? = some u' ∧ EvP w ok e u u'
def DA.evs (xs : List Value) (l : List EV) : DA := ⟨fun w ok => EvsP w ok xs l, fun h1 h2 h => ⟨h.1, fun i e hi => by
 obtain ⟨u, u', a, b, d⟩ := h.2 i e hi
 exact ⟨u, u', a, b, d.mono h1 h2⟩⟩⟩
theorem EvsP.snoc {w : World} {ok : Nat → Prop} {xs : List Value} {l : List EV} {e : EV} {u u' : Value} (h : EvsP w ok xs l) (he : EvP w ok e u u') : EvsP w ok (xs ++ [u, u']) (l ++ [e]) := by
 refine ⟨by simp [h.1]; omega, fun i x hi => ?_⟩
 rcases Nat.lt_trichotomy i l.length with hl | hl | hl
 ·rw [List.getElem?_append_left hl] at hi
  obtain ⟨v, v', a, b, d⟩ := h.2 i x hi
  exact ⟨v, v', by rw [List.getElem?_append_left (by rw [h.1]; omega)]; exact a, by rw [List.getElem?_append_left (by rw [h.1]; omega)]; exact b, d⟩
 ·subst hl
  rw [List.getElem?_append_right (Nat.le_refl _)] at hi
  simp at hi
  subst hi
  refine ⟨u, u', ?_, ?_, he⟩
  ·rw [List.getElem?_append_right (by rw [h.1]; omega), h.1, show l.length * 2 - 2 * l.length = 0 from by omega]; rfl
  ·rw [List.getElem?_append_right (by rw [h.1]; omega), h.1, show l.length * 2 + 1 - 2 * l.length = 1 from by omega]; rfl
 ·rw [List.getElem?_eq_none (by simp; omega)] at hi; cases hi
theorem evs_row {w : World} {ok : Nat → Prop} {A : Option Addr} {m c T : Nat} {xs : List Value} {l : List EV} (h : (HA.row A m c T 2 xs).holds w) (hok : ∀ b ∈ (HA.row A m c T 2 xs).foot, ok b) (hx : EvsP w ok xs l) (hm : m = l.length) :
  l.length ≤ c ∧ c ≤ maxLen ∧ ∀ (i : Nat) e, l[i]? = some e → ∃ a u u', A = some a ∧ ok a.block ∧ w.cell? (a.add (i * 2)) = some u ∧ w.cell? (a.add (i * 2 + 1)) = some u' ∧ EvP w ok e u u' := by
 obtain ⟨h1, h2, h3⟩ := uG h
 subst hm
 refine ⟨h1, h2, fun i e hi => ?_⟩
 obtain ⟨u, u', a, b, d⟩ := hx.2 i e hi
 obtain ⟨q, hq, hf, hc⟩ := h3 _ _ a
 obtain ⟨q', hq', _, hc'⟩ := h3 _ _ b
 rw [hq] at hq'
 cases hq'
 exact ⟨q, u, u', hq, hok _ (by rw [hf]; simp), hc, hc', d⟩
def DA.evrow (A : Option Addr) (c : Nat) (l : List EV) : DA := ⟨fun w ok => l.length ≤ c ∧ c ≤ maxLen ∧ ∀ (i : Nat) e, l[i]? = some e → ∃ a u u', A = some a ∧ ok a.block ∧ w.cell? (a.add (i * 2)) = some u ∧ w.cell? (a.add (i * 2 + 1)) = some u' ∧ EvP w ok e u u',
 fun h1 h2 h => ⟨h.1, h.2.1, fun i e hi => by
  obtain ⟨a, u, u', b1, b2, b3, b4, b5⟩ := h.2.2 i e hi
  exact ⟨a, u, u', b1, h1 _ b2, rY h2 b2 b3, rY h2 b2 b4, b5.mono h1 h2⟩⟩⟩
section rules
variable {P : Program} {n : Nat} {F : List Nat} {c : Ctx F} {k : List KI} {Q : Post} {e : Env} {M : List HA} {D : List DA}
theorem run_frEvs (i j : Nat) {A : Option Addr} {m cap E : Nat} {xs : List Value} (l : List EV) (hi : M[i]? = some (.row A m cap E 2 xs)) (hj : D[j]? = some (.evs xs l)) (hF : ∀ b ∈ F, b ∈ foots (M.eraseIdx i)) (hm : m = l.length) (next : Run P n c k Q e (M.eraseIdx i) (.evrow A cap l :: D)) : Run P n c k Q e M D :=
 vX i [.evrow A cap l] hF hi (fun w ok h hok hD d hd => by
  rcases List.mem_singleton.1 hd with rfl
  exact evs_row h hok (hD _ (List.mem_of_getElem? hj)) hm) next
end rules
theorem ev_take {l : List EV} {i : Nat} (hi : i < l.length) : l.take i ++ [l[i]] = l.take (i + 1) := by rw [List.take_add_one, List.getElem?_eq_getElem hi]; rfl

theorem c134 (sp : Value) (nb : Nat) (tag s : ByteArray) : CtR Tryz.prog 134 #[sp, ptr nb] [.node nb (scal tag s)] (RF (.text s)) := by
 refine Ct.of_run (args := [sp, ptr nb]) Tryz.func134 (by kernel_rfl) rfl Tryz.ntmps134 rfl (fun c => ?_)
 refine yZ 0 rfl (fun A0 cap0 ht0 hv0 hl0 hc0 => ?_)
 refine rO 13 rfl (zB xO rfl rfl ?_)
 refine zA (zF 0 sc146 rfl rfl rfl rfl ?_)
 refine oO 17 rfl (zB xR rfl rfl ?_)
 refine oK 3 [4] rfl rfl (zY (.fv (.pointer (some ⟨nb, 3, none⟩)) (.text s)) (fun w ok h => ⟨_, rfl, hv0, vS (dget h 0 rfl) rfl⟩) ?_)
 exact zC Tryz.results134 rfl ⟨rfl, _, rfl, rfl⟩ nS (sub1 0 rfl)
theorem c136 (sp : Value) (nb : Nat) (x : Bool) : CtR Tryz.prog 136 #[sp, ptr nb] [.node nb (scal tBool (fbB x))] (RF (.bool x)) := by
 refine Ct.of_run (args := [sp, ptr nb]) Tryz.func136 (by kernel_rfl) rfl Tryz.ntmps136 rfl (fun c => ?_)
 refine yZ 0 rfl (fun A0 cap0 ht0 hv0 hl0 hc0 => ?_)
 refine rO 13 rfl (zB xO rfl rfl ?_)
 refine zA (zF 0 sc146 rfl rfl rfl rfl ?_)
 refine oO 17 rfl (zB tA rfl rfl ?_)
 refine zA (zF 0 sc9 rfl rfl rfl rfl ?_)
 refine oK 1 [16, 1] rfl rfl (rO 16 rfl ?_)
 refine zB xR rfl rfl (zA ?_)
 refine zF 0 sc9 rfl rfl rfl rfl (zA ?_)
 refine zJ rfl rfl rfl (c181 x) sub0 (oO 7 rfl ?_)
 refine zT ze4 rfl (fun b5 => ?_)
 change RunOps _ _ _ _ _ _ _ _ (HA.blk _ [_] _ :: _) _
 refine zA (zG 0 (M' := [HA.blk _ [_] _]) rfl rfl rfl rfl si4 rfl rfl rfl ?_)
 refine oK 3 [5] rfl rfl (rR 5 rfl ?_)
 refine yW 0 rfl (by intro b h; cases h) (zY (.fv (ptr b5) (.bool x)) (fun w ok h => ⟨_, rfl, vS (dget h 0 rfl) rfl⟩) ?_)
 exact zC Tryz.results136 rfl ⟨rfl, _, rfl, rfl⟩ nS (sub1 0 rfl)
theorem c140 (sp : Value) (nb : Nat) (l : List ByteArray) (hl : l.length ≤ 1000000) : CtR Tryz.prog 140 #[sp, ptr nb] [.node nb (.mk 2 tSeq ⟨#[]⟩ (l.map (scal tStr)))] (RF (.texts l)) := by
 refine Ct.of_run (args := [sp, ptr nb]) Tryz.func140 (by kernel_rfl) rfl Tryz.ntmps140 rfl (fun c => ?_)
 refine yZ 0 rfl (fun A0 cap0 ht0 hv0 hl0 hc0 => ?_)
 rw [List.length_map]
 rw [List.length_map] at hl0
 unfold maxLen at hc0
 refine rO 13 rfl (zB xO rfl rfl ?_)
 refine zA (zF 0 sc146 rfl rfl rfl rfl ?_)
 refine oK 17 [20, 1] rfl rfl (rO 4 rfl ?_)
 refine xD sl22 rfl rfl rfl (fun b22 => ?_)
 refine zA (zT ze22 rfl (fun b6 => ?_))
 change RunOps _ _ _ _ _ _ _ _ (HA.blk _ [_] _ :: _) _
 refine zA (zG 0 (M' := [HA.blk _ [_] _, _]) rfl rfl rfl rfl si22 rfl rfl rfl ?_)
 refine oO 9 rfl (zB xG rfl rfl ?_)
 refine zA (zF 0 sc148 rfl rfl rfl rfl ?_)
 refine zA (zZ sl148 rfl rfl ?_)
 refine oK 4 [28, 27, 26, 6] rfl rfl ?_
 refine run_loopM 1 (fun (⟨i, A, ca, xs⟩ : Nat × Option Addr × Nat × List Value) => i ≤ l.length ∧ xs = (l.take i).map Value.string ∧ ∀ s ∈ l.take i, s.size ≤ maxLen) (fun (⟨i, A, ca, xs⟩ : Nat × Option Addr × Nat × List Value) => [(28, .int .i64 ((i : Nat) : Int))]) (fun (⟨i, A, ca, xs⟩ : Nat × Option Addr × Nat × List Value) => HA.blk b6 [.slice A i ca] 22 :: HA.row A i ca 9 1 xs :: []) (fun (⟨i, A, ca, xs⟩ : Nat × Option Addr × Nat × List Value) => l.length - i) (0, _, _, []) (⟨by show 0 ≤ _; omega, rfl, by simp⟩) (eC rfl (eN _)) rfl ?_ (eC rfl (eC rfl (eC rfl (eN _))))
 intro ⟨i, A, ca, xs⟩ hI K hK
 change Run _ _ _ _ _ [(28, _), (27, _), (26, _), (6, _)] [_, _] (_)
 obtain ⟨hi, hxs, hsz⟩ := hI
 refine rO 3 rfl (yT rfl rfl rfl ?_)
 refine oR 2 rfl (zM rfl (fun h29 => ?_) (fun h29 => ?_))
 ·refine rO 6 rfl (xK 1 sl148 rfl rfl rfl rfl h29 ?_)
  refine wK 1 i rfl (qL h29) (fun b1 => ?_)
  refine vP 1 rfl (fun A1 cap1 ht1 hv1 hl1 hc1 => ?_)
  refine zA (yN sc102 rfl rfl (fun _ h => wL h (j := 2) rfl) ?_)
  refine oO 10 rfl (zB xO rfl rfl ?_)
  refine zA (zF 0 sc146 rfl rfl rfl rfl ?_)
  refine oR 10 rfl (yU yG ?_)
  refine zQ (tP 1 rfl wanted0 (zU rfl) ?_)
  refine tP 2 rfl wanted0 (yR rfl) (tP 3 rfl wanted0 (zX xR rfl) ?_)
  refine yD (tM 0 rfl wanted0 (xA 0 sc22 rfl rfl rfl) ?_)
  refine tM 4 rfl wanted0 (uN 0 sc9 rfl rfl rfl) (zN 5 (by decide +kernel) ?_)
  refine zO (I2 := [[0], [], []]) rfl wanted0 (by decide +kernel) (fun Kd hKd => ?_)
  refine zK sl22 rfl rfl rfl rfl rfl (fun b43 => ?_)
  refine hKd _ _ _ (hC (zE (zE (zP)))) (zN 6 (by decide +kernel) ?_)
  refine zO (I2 := [[], [], []]) rfl wanted0 (by decide +kernel) (fun Kd hKd => ?_)
  refine op_apd 2 0 sl22 (fun A44 c44 => ?_)
  refine hKd _ _ _ (zE (zE (zE (zP)))) (zN 7 (by decide +kernel) ?_)
  refine zO (I2 := [[], [], []]) rfl wanted0 (by decide +kernel) (fun Kd hKd => ?_)
  refine zG 1 (M' := [_, HA.blk _ [_] _, _]) rfl rfl rfl rfl si22 rfl rfl rfl (hKd _ _ _ (zE (zE (zE (zP)))) ?_)
  refine yH (by decide +kernel) (rK 0 [28, 27, 26, 6] rfl rfl ?_)
  refine rO 4 rfl (yL rfl rfl (by omega) ?_)
  refine oR 3 rfl ?_
  exact kQ (hK (i + 1, _, _, xs ++ [.string (l[i]'h29)]) (⟨by show i + 1 ≤ _; omega, by rw [hxs]; exact strs_step h29, szs_step h29 hsz hv1⟩) (by show l.length - (i + 1) < l.length - i; omega)) (eC rfl (eC rfl (eC rfl (eC rfl (eN _)))))
 refine rR 6 rfl ?_
 obtain rfl : i = l.length := by omega
 rw [List.take_length] at hxs hsz
 refine wQ 1 l rfl (by intro b h; cases h) hxs hsz (yW 0 rfl (by intro b h; cases h) ?_)
 exact zY (.fv (ptr b6) (.texts l)) (fun w ok h => ⟨_, _, rfl, vS (dget h 0 rfl) rfl, dget h 1 rfl⟩) (zC Tryz.results140 rfl ⟨rfl, _, rfl, rfl⟩ nS (sub1 0 rfl))
theorem c144s (sp : Value) (nb : Nat) (tag s : ByteArray) : CtR Tryz.prog 144 #[sp, ptr nb] [.node nb (scal tag s)] (RF (.tyS s)) := by
 refine Ct.of_run (args := [sp, ptr nb]) Tryz.func144 (by kernel_rfl) rfl Tryz.ntmps144 rfl (fun c => ?_)
 refine yZ 0 rfl (fun A0 cap0 ht0 hv0 hl0 hc0 => ?_)
 refine rO 13 rfl (zB xO rfl rfl ?_)
 refine zA (zF 0 sc146 rfl rfl rfl rfl ?_)
 refine oO 13 rfl (yF rfl rfl (bu196 ..) ?_)
 refine zA (yJ rfl rfl rfl (fun b17 => ?_))
 refine oK 3 [5, 1] rfl rfl (rO 9 rfl ?_)
 refine zB xR rfl rfl (oO 3 rfl ?_)
 refine zB fo196_0 rfl rfl (zA ?_)
 refine zG 0 (M' := [HA.blk _ [_, _] _]) rfl rfl rfl rfl si111 rfl rfl rfl (oK 8 [4] rfl rfl ?_)
 refine yW 0 rfl (by intro b h; cases h) (zY (.fv (ptr b17) (.tyS s)) (fun w ok h => ⟨b17, _, rfl, hv0, dget h 0 rfl, vS (dget h 1 rfl) rfl⟩) ?_)
 exact zC Tryz.results144 rfl ⟨rfl, _, rfl, rfl⟩ nS (sub1 0 rfl)
theorem c144l (sp : Value) (nb : Nat) (l : List ByteArray) (hl : l.length ≤ 1000000) : CtR Tryz.prog 144 #[sp, ptr nb] [.node nb (.mk 2 tSeq ⟨#[]⟩ (l.map (scal tStr)))] (RF (.tyL l)) := by
 refine Ct.of_run (args := [sp, ptr nb]) Tryz.func144 (by kernel_rfl) rfl Tryz.ntmps144 rfl (fun c => ?_)
 refine yZ 0 rfl (fun A0 cap0 ht0 hv0 hl0 hc0 => ?_)
 rw [List.length_map]
 rw [List.length_map] at hl0
 unfold maxLen at hc0
 refine rO 13 rfl (zB xO rfl rfl ?_)
 refine zA (zF 0 sc146 rfl rfl rfl rfl ?_)
 refine oK 17 [25, 1] rfl rfl (rO 4 rfl ?_)
 refine xD sl22 rfl rfl rfl (fun b27 => ?_)
 refine zA (zT ze22 rfl (fun b6 => ?_))
 change RunOps _ _ _ _ _ _ _ _ (HA.blk _ [_] _ :: _) _
 refine zA (zG 0 (M' := [HA.blk _ [_] _, _]) rfl rfl rfl rfl si22 rfl rfl rfl ?_)
 refine oO 9 rfl (zB xG rfl rfl ?_)
 refine zA (zF 0 sc148 rfl rfl rfl rfl ?_)
 refine zA (zZ sl148 rfl rfl ?_)
 refine oK 4 [33, 32, 31, 6] rfl rfl ?_
 refine run_loopM 1 (fun (⟨i, A, ca, xs⟩ : Nat × Option Addr × Nat × List Value) => i ≤ l.length ∧ xs = (l.take i).map Value.string ∧ ∀ s ∈ l.take i, s.size ≤ maxLen) (fun (⟨i, A, ca, xs⟩ : Nat × Option Addr × Nat × List Value) => [(33, .int .i64 ((i : Nat) : Int))]) (fun (⟨i, A, ca, xs⟩ : Nat × Option Addr × Nat × List Value) => HA.blk b6 [.slice A i ca] 22 :: HA.row A i ca 9 1 xs :: []) (fun (⟨i, A, ca, xs⟩ : Nat × Option Addr × Nat × List Value) => l.length - i) (0, _, _, []) (⟨by show 0 ≤ _; omega, rfl, by simp⟩) (eC rfl (eN _)) rfl ?_ (eC rfl (eC rfl (eC rfl (eN _))))
 intro ⟨i, A, ca, xs⟩ hI K hK
 change Run _ _ _ _ _ [(33, _), (32, _), (31, _), (6, _)] [_, _] (_)
 obtain ⟨hi, hxs, hsz⟩ := hI
 refine rO 3 rfl (yT rfl rfl rfl ?_)
 refine oR 2 rfl (zM rfl (fun h34 => ?_) (fun h34 => ?_))
 ·refine rO 6 rfl (xK 1 sl148 rfl rfl rfl rfl h34 ?_)
  refine wK 1 i rfl (qL h34) (fun b1 => ?_)
  refine vP 1 rfl (fun A1 cap1 ht1 hv1 hl1 hc1 => ?_)
  refine zA (yN sc102 rfl rfl (fun _ h => wL h (j := 2) rfl) ?_)
  refine oO 10 rfl (zB xO rfl rfl ?_)
  refine zA (zF 0 sc146 rfl rfl rfl rfl ?_)
  refine oR 10 rfl (yU yG ?_)
  refine zQ (tP 1 rfl wanted0 (zU rfl) ?_)
  refine tP 2 rfl wanted0 (yR rfl) (tP 3 rfl wanted0 (zX xR rfl) ?_)
  refine yD (tM 0 rfl wanted0 (xA 0 sc22 rfl rfl rfl) ?_)
  refine tM 4 rfl wanted0 (uN 0 sc9 rfl rfl rfl) (zN 5 (by decide +kernel) ?_)
  refine zO (I2 := [[0], [], []]) rfl wanted0 (by decide +kernel) (fun Kd hKd => ?_)
  refine zK sl22 rfl rfl rfl rfl rfl (fun b48 => ?_)
  refine hKd _ _ _ (hC (zE (zE (zP)))) (zN 6 (by decide +kernel) ?_)
  refine zO (I2 := [[], [], []]) rfl wanted0 (by decide +kernel) (fun Kd hKd => ?_)
  refine op_apd 2 0 sl22 (fun A49 c49 => ?_)
  refine hKd _ _ _ (zE (zE (zE (zP)))) (zN 7 (by decide +kernel) ?_)
  refine zO (I2 := [[], [], []]) rfl wanted0 (by decide +kernel) (fun Kd hKd => ?_)
  refine zG 1 (M' := [_, HA.blk _ [_] _, _]) rfl rfl rfl rfl si22 rfl rfl rfl (hKd _ _ _ (zE (zE (zE (zP)))) ?_)
  refine yH (by decide +kernel) (rK 0 [33, 32, 31, 6] rfl rfl ?_)
  refine rO 4 rfl (yL rfl rfl (by omega) ?_)
  refine oR 3 rfl ?_
  exact kQ (hK (i + 1, _, _, xs ++ [.string (l[i]'h34)]) (⟨by show i + 1 ≤ _; omega, by rw [hxs]; exact strs_step h34, szs_step h34 hsz hv1⟩) (by show l.length - (i + 1) < l.length - i; omega)) (eC rfl (eC rfl (eC rfl (eC rfl (eN _)))))
 refine rO 4 rfl (yF rfl rfl (bu196 ..) ?_)
 refine zA (yJ rfl rfl rfl (fun b52 => ?_))
 refine oO 10 rfl (zB fo196_1 rfl rfl ?_)
 refine zA (zG 0 (M' := [HA.blk _ [_, _] _, _, _]) rfl rfl rfl rfl si117 rfl rfl rfl ?_)
 refine oK 1 [9] rfl rfl (rR 7 rfl ?_)
 obtain rfl : i = l.length := by omega
 rw [List.take_length] at hxs hsz
 refine wQ 2 l rfl (by intro b h; cases h) hxs hsz (yW 1 rfl (by intro b h; cases h) ?_)
 refine yW 0 rfl (by intro b h; cases h) (zY (.fv (ptr b52) (.tyL l)) (fun w ok h => ⟨b52, _, _, rfl, dget h 0 rfl, vS (dget h 1 rfl) rfl, dget h 2 rfl⟩) ?_)
 exact zC Tryz.results144 rfl ⟨rfl, _, rfl, rfl⟩ nS (sub1 0 rfl)
theorem c143 (sp : Value) (nb : Nat) (l : List EV) (hl : l.length ≤ 1000000) : CtR Tryz.prog 143 #[sp, ptr nb] [.node nb (.mk 2 tSeq ⟨#[]⟩ (l.map evY))] (RF (.enums l)) := by
 refine Ct.of_run (args := [sp, ptr nb]) Tryz.func143 (by kernel_rfl) rfl Tryz.ntmps143 rfl (fun c => ?_)
 refine yZ 0 rfl (fun A0 cap0 ht0 hv0 hl0 hc0 => ?_)
 rw [List.length_map]
 rw [List.length_map] at hl0
 unfold maxLen at hc0
 refine rO 8 rfl (xD sl221 rfl rfl rfl (fun b10 => ?_))
 refine zA (zT ze221 rfl (fun b5 => ?_))
 change RunOps _ _ _ _ _ _ _ _ (HA.blk _ [_] _ :: _) _
 refine zA (zG 0 (M' := [HA.blk _ [_] _, _]) rfl rfl rfl rfl si221 rfl rfl rfl ?_)
 refine oO 9 rfl (zB xO rfl rfl ?_)
 refine zA (zF 0 sc146 rfl rfl rfl rfl ?_)
 refine oO 17 rfl (zB xG rfl rfl ?_)
 refine zA (zF 0 sc148 rfl rfl rfl rfl ?_)
 refine zA (zZ sl148 rfl rfl ?_)
 refine oK 3 [22, 21, 20, 5] rfl rfl (rK 1 [22, 21, 20, 5] rfl rfl ?_)
 refine zY (.evs [] (l.take 0)) (fun w ok h => ⟨rfl, fun i e hi => by simp at hi⟩) ?_
 refine yS 1 (fun (⟨i, A, ca, xs⟩ : Nat × Option Addr × Nat × List Value) => i ≤ l.length) (fun (⟨i, A, ca, xs⟩ : Nat × Option Addr × Nat × List Value) => [(22, .int .i64 ((i : Nat) : Int))]) (fun (⟨i, A, ca, xs⟩ : Nat × Option Addr × Nat × List Value) => HA.blk b5 [.slice A i ca] 221 :: HA.row A i ca 223 2 xs :: []) (fun (⟨i, A, ca, xs⟩ : Nat × Option Addr × Nat × List Value) => .evs xs (l.take i) :: .dblk nb (ycells 2 tSeq ⟨#[]⟩ A0 l.length cap0) 150 :: .kids (.slice A0 l.length cap0) (l.map evY) :: .node nb (.mk 2 tSeq ⟨#[]⟩ (l.map evY)) :: []) (fun (⟨i, A, ca, xs⟩ : Nat × Option Addr × Nat × List Value) => l.length - i) (0, _, _, []) (by show 0 ≤ _; omega) (eC rfl (eN _)) rfl rfl ?_ (eC rfl (eC rfl (eC rfl (eN _))))
 intro ⟨i, A, ca, xs⟩ hI K hK
 replace hI : i ≤ l.length := hI
 change Run _ _ _ _ _ [(22, _), (21, _), (20, _), (5, _)] [_, _] [_, _, _, _]
 refine rO 3 rfl (yT rfl rfl rfl ?_)
 refine oR 2 rfl (zM rfl (fun h23 => ?_) (fun h23 => ?_))
 ·refine rO 6 rfl (xK 2 sl148 rfl rfl rfl rfl h23 ?_)
  refine wK 2 i rfl (qL h23) (fun b1 => ?_)
  refine ops_node 1 rfl (fun A1 cap1 ht1 hv1 hl1 hc1 => ?_)
  refine zA (yN sc102 rfl rfl (fun _ h => wL h (j := 2) rfl) ?_)
  refine oO 10 rfl (zB xO rfl rfl ?_)
  refine zA (zF 0 sc146 rfl rfl rfl rfl ?_)
  refine oR 9 rfl (wF rfl (decide_eq_true (evY_kind _)) ?_)
  refine rO 7 rfl (zB tA rfl rfl ?_)
  refine zA (zF 0 sc9 rfl rfl rfl rfl ?_)
  refine oK 1 [35, 7, 22, 21, 20, 5] rfl rfl (rR 8 rfl ?_)
  refine zM rfl (fun h36 => ?_) (fun h36 => ?_)
  ·obtain ⟨s9, he⟩ := evY_str h36
   refine yU yG (zQ ?_)
   refine tP 1 rfl wanted0 (zU rfl) (tP 2 rfl wanted0 (yR rfl) ?_)
   refine tP 3 rfl wanted0 (zX xR rfl) (yD ?_)
   refine tM 0 rfl wanted0 (xA 0 sc221 rfl rfl rfl) (tM 4 rfl wanted0 (sO rfl (bu223_0 ..)) ?_)
   refine zN 5 (by decide +kernel) ?_
   refine zO (I2 := [[0], [], []]) rfl wanted0 (by decide +kernel) (fun Kd hKd => ?_)
   refine zK sl221 rfl rfl rfl rfl rfl (fun b43 => ?_)
   refine hKd _ _ _ (hC (zE (zE (zP)))) (zN 6 (by decide +kernel) ?_)
   refine zO (I2 := [[], [], []]) rfl wanted0 (by decide +kernel) (fun Kd hKd => ?_)
   refine op_apd 2 0 sl221 (fun A44 c44 => ?_)
   refine hKd _ _ _ (zE (zE (zE (zP)))) (zN 7 (by decide +kernel) ?_)
   refine zO (I2 := [[], [], []]) rfl wanted0 (by decide +kernel) (fun Kd hKd => ?_)
   refine zG 1 (M' := [_, HA.blk _ [_] _, _]) rfl rfl rfl rfl si221 rfl rfl rfl (hKd _ _ _ (zE (zE (zE (zP)))) ?_)
   refine yH (by decide +kernel) (rK 0 [22, 21, 20, 5] rfl rfl ?_)
   refine rO 5 rfl (yL rfl rfl (by omega) ?_)
   refine oR 3 rfl (zY (.evs (xs ++ [.pointer (some ⟨b1, 3, none⟩), .pointer none]) ((l.take i) ++ [l[i]])) (fun w ok h => EvsP.snoc (dget h 4 rfl) (by rw [he]; exact ⟨_, rfl, rfl, by rw [he] at hv1; exact hv1, by have := vS (o := 3) (dget h 0 rfl) rfl; rw [he] at this; exact this⟩)) ?_)
   rw [ev_take h23]
   exact kQ (hK (i + 1, _, _, _) (by show i + 1 ≤ _; omega) (by show l.length - (i + 1) < l.length - i; omega)) (eC rfl (eC rfl (eC rfl (eC rfl (eN _))))) (hD := (subc 0 rfl sQ))
  obtain ⟨x9, he⟩ := evY_bool h36
  refine rR 7 rfl (wF rfl (decide_eq_true (by rw [he]; rfl)) ?_)
  refine rO 7 rfl (zB xR rfl rfl ?_)
  refine zA (zF 0 sc9 rfl rfl rfl rfl ?_)
  refine zA (zJ rfl rfl (by rw [he]; rfl) (c181 x9) sub0 ?_)
  refine oO 7 rfl (zT ze4 rfl (fun b8 => ?_))
  change RunOps _ _ _ _ _ _ _ _ (HA.blk _ [_] _ :: _) _
  refine zA (zG 0 (M' := [HA.blk _ [_] _, _, _]) rfl rfl rfl rfl si4 rfl rfl rfl ?_)
  refine oK 3 [8, 22, 21, 20, 5] rfl rfl (rO 2 rfl ?_)
  refine zI 1 sc221 rfl rfl rfl rfl (zA ?_)
  refine yF rfl rfl (bu223_1 ..) (zA ?_)
  refine zK sl221 rfl rfl rfl rfl rfl (fun b57 => ?_)
  refine zA ?_
  refine op_apd 3 0 sl221 (fun A58 c58 => ?_)
  refine zA (zG 2 (M' := [_, _, HA.blk _ [_] _, _]) rfl rfl rfl rfl si221 rfl rfl rfl ?_)
  refine oO 6 rfl (yL rfl rfl (by omega) ?_)
  refine oR 3 rfl (yW 1 rfl (by intro b h; cases h) ?_)
  refine zY (.evs (xs ++ [.pointer none, ptr b8]) ((l.take i) ++ [l[i]])) (fun w ok h => EvsP.snoc (dget h 5 rfl) (by rw [he]; exact ⟨_, rfl, rfl, vS (dget h 0 rfl) rfl⟩)) ?_
  rw [ev_take h23]
  exact kQ (hK (i + 1, _, _, _) (by show i + 1 ≤ _; omega) (by show l.length - (i + 1) < l.length - i; omega)) (eC rfl (eC rfl (eC rfl (eC rfl (eN _))))) (hD := (subc 0 rfl sQ))
 refine rR 7 rfl ?_
 obtain rfl : i = l.length := by omega
 rw [List.take_length]
 refine run_frEvs 1 0 l rfl rfl (by intro b h; cases h) rfl (yW 0 rfl (by intro b h; cases h) ?_)
 exact zY (.fv (ptr b5) (.enums l)) (fun w ok h => ⟨_, _, _, rfl, vS (dget h 0 rfl) rfl, (dget h 1 rfl : (DA.evrow A ca l).p w ok)⟩) (zC Tryz.results143 rfl ⟨rfl, _, rfl, rfl⟩ nS (sub1 0 rfl))
end Go.Jw

namespace Go.Jw
open Go Go.RowKit
def MapOk (es : Array MapEntry) : Prop := ∀ x ∈ es.toList, ∃ s, x.key = .string s
theorem MapOk.empty : MapOk #[] := by intro x hx; cases hx
theorem MapOk.isKey {es : Array MapEntry} (h : MapOk es) : ∀ x ∈ es.toList, MapKept.IsKey .string x.key := by
 intro x hx
 obtain ⟨s, hs⟩ := h x hx
 rw [hs]; simp [MapKept.IsKey]
theorem run_mapUpd {P : Program} {w : World} {mty kt et : TypeId} {r clock : Nat} {es : Array MapEntry} {s : ByteArray} {val : Value} (hm : P.underlying mty = some (.map kt et)) (hk : P.underlying kt = some .string) (hb : w.heap[r]? = some (.map es clock)) (hes : MapOk es) :
  ∃ es' clock', (Instr.mapUpdate mty (.map (some r)) (.string s) val).run P w = .ok () { w with heap := w.heap.setIfInBounds r (.map es' clock') } ∧ MapOk es' ∧ (es = #[] → es' = #[{ key := .string s, val := val, born := clock }]) := by
 have hc : (Instr.checkKey false 10000 kt (.string s)).run P w = .ok () w := MapKept.run_checkKey (k := .string s) hk (by simp [MapKept.IsKey]) false 9999
 rcases MapKept.findNow_spec (d := .string) (k := .string s) (by simp [MapKept.IsKey]) es.toList 0 hes.isKey with ⟨hf, _⟩ | ⟨j, e, hf, hj, hke⟩
 ·refine ⟨es.push { key := .string s, val := val, born := clock }, clock + 1, ?_, ?_, ?_⟩
  ·simp [Instr.mapUpdate, run_underlying hm, MapKept.run_getObj_map hb, hc, MapKept.run_findKey hk hf, MapKept.run_setObj_map _ hb, Result.andThen]
  ·intro x hx
   simp at hx
   rcases hx with hx | rfl
   ·exact hes x (by simpa using hx)
   ·exact ⟨s, rfl⟩
  ·intro h; subst h; rfl
 ·rw [Nat.zero_add] at hf
  have hj' : es[j]? = some e := by simpa using hj
  refine ⟨es.modify j (fun e => { e with key := .string s, val := val }), clock, ?_, ?_, ?_⟩
  ·have hst : (Instr.keyThatStays (.string s) (.string s)).run P w = .ok (.string s) w := by
    have : (s == s) = true := (MapKept.bytes_beq s s).2 rfl
    simp [Instr.keyThatStays, Instr.sameBits, this]
   simp [Instr.mapUpdate, run_underlying hm, MapKept.run_getObj_map hb, hc, MapKept.run_findKey hk hf, MapKept.run_setObj_map _ hb, Result.andThen, hj', hke, hst]
  ·intro x hx
   obtain ⟨q, hq, rfl⟩ := List.getElem_of_mem hx
   simp only [Array.toList_modify, List.getElem_modify] at *
   split
   ·exact ⟨s, rfl⟩
   ·exact hes _ (List.getElem_mem _)
  ·intro h; subst h; simp at hj'
section rules
variable {P : Program} {n : Nat} {F : List Nat} {c : Ctx F} {ops : Array Oper} {d : Nat} {T : TypeId} {l : List Oper} {k : List KI} {Q : Post} {e : Env} {M : List HA} {D : List DA}
theorem op_mapUpd (i : Nat) {x y z : Operand} {mb clock : Nat} {es : Array MapEntry} {s : ByteArray} {v : Value} {S kt et : TypeId} (hm : P.underlying S = some (.map kt et)) (hk : P.underlying kt = some .string) (hx : ev e x = some (.map (some mb))) (hy : ev e y = some (.string s)) (hz : ev e z = some v)
    (hi : M[i]? = some (.obj mb (.map es clock))) (hes : MapOk es) (next : ∀ es' clock', MapOk es' → (es = #[] → es' = #[{ key := .string s, val := v, born := clock }]) → RunOps P n c ops l k Q e (M.set i (.obj mb (.map es' clock'))) D) :
    RunOp P n c ops none (.mapUpdate S x y z) T l k Q e M D := by
  intro a w hf
  have hb : w.heap[mb]? = some (.map es clock) := hf.toFitsW.mem hi
  obtain ⟨es', clock', hr, h1, h2⟩ := run_mapUpd (P := P) (s := s) (val := v) hm hk hb hes
  have hlt : mb < w.heap.size := uQ hb
  unfold Oper.wp
  have : (execOp a.eval (opr none (.mapUpdate S x y z) T)).run P w = .ok .skip { w with heap := w.heap.setIfInBounds mb (.map es' clock') } := by
    simp [execOp, opr, hf.ev hx, hf.ev hy, hf.ev hz, hr]
  rw [this]
  refine next es' clock' h1 h2 _ _ (hf.world (hf.toFitsW.swapAt hi (x' := .obj mb (.map es' clock')) ?_ ?_ (by simp [HA.foot]) (fun b hb => .inl hb)))
  · show (w.heap.setIfInBounds mb _)[mb]? = _
    simp [hlt]
  · refine ⟨rfl, rfl, rfl, by simp, fun q hq hF => ?_⟩
    have hne : mb ≠ q := by intro e; subst e; exact hF (by simp [HA.foot])
    show (w.heap.setIfInBounds mb _)[q]? = _
    rw [Array.getElem?_setIfInBounds_ne hne]
end rules
end Go.Jw

namespace Go.Jw
open Go Go.RowKit Go.Proofs
set_option maxRecDepth 8000
open Go.Proofs
instance : Inhabited Prop := ⟨True⟩
noncomputable def NoId : V → Prop := V.fix (fun v f => getV v kId = none ∧ ∀ (j : Nat) k u, v.keys[j]? = some k → v.items[j]? = some u → ∀ z ∈ kidsOf (shapeOf k) u, f z)
def NoIdB (v : V) : Prop := ∀ (j : Nat) k u, v.keys[j]? = some k → v.items[j]? = some u → ∀ z ∈ kidsOf (shapeOf k) u, NoId z
theorem noId_iff (v : V) : NoId v ↔ getV v kId = none ∧ NoIdB v := by
 have := V.fix_eq (G := fun v f => getV v kId = none ∧ ∀ (j : Nat) k u, v.keys[j]? = some k → v.items[j]? = some u → ∀ z ∈ kidsOf (shapeOf k) u, f z) (fun t g g' h => by
  have : ∀ (j : Nat) k u, t.items[j]? = some u → ((∀ z ∈ kidsOf (shapeOf k) u, g z) ↔ ∀ z ∈ kidsOf (shapeOf k) u, g' z) := by
   intro j k u hu
   have hs : ∀ z ∈ kidsOf (shapeOf k) u, SizeOf.sizeOf z < SizeOf.sizeOf t := fun z hz => Nat.lt_of_le_of_lt (uH hz) (pD hu)
   exact ⟨fun a z hz => by rw [← h z (hs z hz)]; exact a z hz, fun a z hz => by rw [h z (hs z hz)]; exact a z hz⟩
  apply propext
  constructor
  ·rintro ⟨h1, h2⟩; exact ⟨h1, fun j k u hk hu => (this j k u hu).1 (h2 j k u hk hu)⟩
  ·rintro ⟨h1, h2⟩; exact ⟨h1, fun j k u hk hu => (this j k u hu).2 (h2 j k u hk hu)⟩) v
 show V.fix _ v ↔ _
 rw [this]
 rfl
def R103 (mb : Nat) (es : Array MapEntry) (clock : Nat) (x : V) (u : Value) (M' : List HA) (D' : List DA) : Prop :=
 ∃ b G es' clock', u = ptr b ∧ M' = [.many 124 (Gr.blks G), .obj mb (.map es' clock')] ∧ D' = [.graph mb G] ∧ Unf G x b ∧ MapOk es' ∧ (NoId x → es' = es ∧ clock' = clock) ∧
  (∀ idv, getV x kId = some idv → NoIdB x → es = #[] → es' = #[{ key := .string idv.text, val := ptr b, born := clock }])
def C103 (ft : DA) (mb : Nat) (back : Bool) (x : V) : Prop := ∀ nb es clock, MapOk es → Ct Tryz.prog 103 #[ptr nb, .map (some mb)] [.obj mb (.map es clock)] [.node nb (nodeV back x), ft] (R103 mb es clock x)
noncomputable abbrev nodeP (back : Bool) (p : ByteArray × V) : ByteArray × Y := (p.1, nodeV back p.2)
theorem flat_len (l : List (ByteArray × Y)) : (l.flatMap prY).length = 2 * l.length := by
  induction l with
  | nil => rfl
  | cons a l ih => simp [List.flatMap_cons, prY] at *; omega
theorem flat_get0 {l : List (ByteArray × Y)} {i : Nat} (h : i < l.length) : (l.flatMap prY)[2 * i]? = some (scal tStr l[i].1) := by
  induction l generalizing i with
  | nil => simp at h
  | cons a l ih =>
    cases i with
    | zero => rfl
    | succ i =>
      rw [show 2 * (i + 1) = 2 * i + 2 from by omega]
      simp only [List.flatMap_cons, prY, List.cons_append, List.nil_append, List.getElem?_cons_succ, List.getElem_cons_succ]
      exact ih (by simpa using h)
theorem flat_get1 {l : List (ByteArray × Y)} {i : Nat} (h : i < l.length) : (l.flatMap prY)[2 * i + 1]? = some l[i].2 := by
  induction l generalizing i with
  | nil => simp at h
  | cons a l ih =>
    cases i with
    | zero => rfl
    | succ i =>
      rw [show 2 * (i + 1) + 1 = 2 * i + 1 + 2 from by omega]
      simp only [List.flatMap_cons, prY, List.cons_append, List.nil_append, List.getElem?_cons_succ, List.getElem_cons_succ]
      exact ih (by simpa using h)
theorem rJ (f : ByteArray × V → ByteArray × Y) (ps : List (ByteArray × V)) : ((ps.map f).flatMap prY).length = 2 * ps.length := by rw [flat_len, List.length_map]
theorem fm_get0 {back : Bool} {ps : List (ByteArray × V)} {i : Nat} (h : i < ps.length) : ((ps.map (nodeP back)).flatMap prY)[2 * i]? = some (scal tStr ps[i].1) := by
 rw [flat_get0 (by simpa using h)]; simp
theorem fm_get1 {back : Bool} {ps : List (ByteArray × V)} {i : Nat} (h : i < ps.length) : ((ps.map (nodeP back)).flatMap prY)[2 * i + 1]? = some (nodeV back ps[i].2) := by
 rw [flat_get1 (by simpa using h)]; simp
theorem sE {back : Bool} {v : V} (h : v.kind = 5) : nodeV back v = .mk 4 tMap ⟨#[]⟩ (((prs back v).map (nodeP back)).flatMap prY) := by
 rw [wZ]
 simp only [h]
 have : ordY back (v.keys.zip (v.items.map (nodeV back))) = (prs back v).map (nodeP back) := by
  have h1 : v.keys.zip (v.items.map (nodeV back)) = (v.keys.zip v.items).map (nodeP back) := by
   rw [List.zip_map_right]; rfl
  unfold ordY prs
  rw [h1]
  cases back <;> simp
 rw [this]
 simp
theorem qN {back : Bool} {v : V} (h : v.kind = 4) : nodeV back v = .mk 2 tSeq ⟨#[]⟩ (v.items.map (nodeV back)) := by
 rw [wZ]; simp [h]
theorem rE {back : Bool} {v : V} (h : v.kind = 5) : (nodeV back v).kind = 4 := by rw [sE h]; rfl
theorem rowp_of {w : World} {ok : Nat → Prop} {A : Option Addr} {m c T : Nat} {xs : List Value} {bs : List Nat} (h : (HA.row A m c T 1 xs).holds w) (hok : ∀ b ∈ (HA.row A m c T 1 xs).foot, ok b) (hx : xs = bs.map ptr) : RowPtrs w ok (.slice A m c) bs := by
 obtain ⟨h1, h2, h3⟩ := uG h
 have hm : m = bs.length := by have := h.1; subst hx; simp at this; omega
 subst hm
 refine ⟨A, c, rfl, h1, h2, fun i b hi => ?_⟩
 obtain ⟨a, ha, hf, hc⟩ := h3 i (ptr b) (by subst hx; simp [hi])
 exact ⟨a, ha, hok _ (by rw [hf]; simp), hc⟩
section rules
variable {P : Program} {n : Nat} {F : List Nat} {c : Ctx F} {k : List KI} {Q : Post} {e : Env} {M : List HA} {D : List DA}
theorem qO (i : Nat) {A : Option Addr} {m cap E : Nat} {xs : List Value} (bs : List Nat) (hi : M[i]? = some (.row A m cap E 1 xs)) (hF : ∀ b ∈ F, b ∈ foots (M.eraseIdx i)) (hx : xs = bs.map ptr) (next : Run P n c k Q e (M.eraseIdx i) (.rowp (.slice A m cap) bs :: D)) : Run P n c k Q e M D :=
 vX i [.rowp (.slice A m cap) bs] hF hi (fun w ok h hok hD d hd => by
  rcases List.mem_singleton.1 hd with rfl
  exact rowp_of h hok hx) next
end rules
def NamP (w : World) (ok : Nat → Prop) (nbs : List Nat) (l : List (ByteArray × Nat)) : Prop := nbs.length = l.length ∧ ∀ (i : Nat) (q : ByteArray × Nat) (nb : Nat), l[i]? = some q → nbs[i]? = some nb → q.1.size ≤ maxLen ∧ BlkP w ok nb [.string q.1, ptr q.2] 179
def DA.nam (nbs : List Nat) (l : List (ByteArray × Nat)) : DA := ⟨fun w ok => NamP w ok nbs l, fun h1 h2 h => ⟨h.1, fun i q nb a b => ⟨(h.2 i q nb a b).1, (h.2 i q nb a b).2.mono h1 h2⟩⟩⟩
theorem NamP.snoc {w : World} {ok : Nat → Prop} {nbs : List Nat} {l : List (ByteArray × Nat)} {q : ByteArray × Nat} {nb : Nat} (h : NamP w ok nbs l) (hq : q.1.size ≤ maxLen) (hb : BlkP w ok nb [.string q.1, ptr q.2] 179) : NamP w ok (nbs ++ [nb]) (l ++ [q]) := by
 refine ⟨by simp [h.1], fun i q' nb' a b => ?_⟩
 rcases Nat.lt_trichotomy i l.length with hi | hi | hi
 ·rw [List.getElem?_append_left hi] at a
  rw [List.getElem?_append_left (by rw [h.1]; exact hi)] at b
  exact h.2 i q' nb' a b
 ·subst hi
  rw [List.getElem?_append_right (Nat.le_refl _)] at a
  rw [List.getElem?_append_right (by rw [h.1]; exact Nat.le_refl _)] at b
  simp at a; simp [h.1] at b
  subst a; subst b
  exact ⟨hq, hb⟩
 ·rw [List.getElem?_eq_none (by simp; omega)] at a; cases a
theorem qA (nbs : List Nat) (b : Nat) : nbs.map ptr ++ [ptr b] = (nbs ++ [b]).map ptr := by simp
theorem sF {α β : Type} {R : α → β → Prop} {l : List α} {ps : List β} {i : Nat} (hi : i < ps.length) {q : α} (h : All2 R l (ps.take i)) (hq : R q ps[i]) : All2 R (l ++ [q]) (ps.take (i + 1)) := by
 rw [List.take_add_one, List.getElem?_eq_getElem hi]
 exact h.snoc hq
theorem noid_step {ps : List (ByteArray × V)} {i : Nat} (hi : i < ps.length) (h : ∀ p ∈ ps.take (i + 1), NoId p.2) : (∀ p ∈ ps.take i, NoId p.2) ∧ NoId ps[i].2 := by
 rw [List.take_add_one, List.getElem?_eq_getElem hi] at h
 exact ⟨fun p hp => h p (List.mem_append_left _ hp), h _ (List.mem_append_right _ (by simp))⟩
theorem noids_step {ps : List V} {i : Nat} (hi : i < ps.length) (h : ∀ p ∈ ps.take (i + 1), NoId p) : (∀ p ∈ ps.take i, NoId p) ∧ NoId ps[i] := by
 rw [List.take_add_one, List.getElem?_eq_getElem hi] at h
 exact ⟨fun p hp => h p (List.mem_append_left _ hp), h _ (List.mem_append_right _ (by simp))⟩
abbrev URel (G : Gr) (q : ByteArray × Nat) (p : ByteArray × V) : Prop := q.1 = p.1 ∧ Unf G p.2 q.2
theorem urel_l {G G' : Gr} {l : List (ByteArray × Nat)} {ps : List (ByteArray × V)} (h : All2 (URel G) l ps) : All2 (URel (G' ++ G)) l ps := h.mono fun q p _ hq => ⟨hq.1, Unf.mono (fun g hg => List.mem_append_right _ hg) _ _ hq.2⟩
theorem unf_l {G G' : Gr} {l : List Nat} {ps : List V} (h : All2 (fun b x => Unf G x b) l ps) : All2 (fun b x => Unf (G' ++ G) x b) l ps := h.mono fun q p _ hq => Unf.mono (fun g hg => List.mem_append_right _ hg) _ _ hq
theorem unf_r {G G' : Gr} {x : V} {b : Nat} (h : Unf G x b) : Unf (G ++ G') x b := Unf.mono (fun g hg => List.mem_append_left _ hg) _ _ h
theorem tD (G G' : Gr) : Gr.blks G ++ Gr.blks G' = Gr.blks (G ++ G') := by simp [Gr.blks]
def DepP (w : World) (ok : Nat → Prop) (nbs : List Nat) (l : List (ByteArray × List ByteArray)) : Prop := nbs.length = l.length ∧ ∀ (i : Nat) (q : ByteArray × List ByteArray) (nb : Nat), l[i]? = some q → nbs[i]? = some nb →
 ∃ tb p2 sl2, q.1.size ≤ maxLen ∧ BlkP w ok nb [.string q.1, ptr tb] 192 ∧ BlkP w ok tb [.pointer none, .pointer (some p2)] 194 ∧ PtsTo w ok p2 sl2 ∧ StrsP w ok sl2 q.2
def DA.dep (nbs : List Nat) (l : List (ByteArray × List ByteArray)) : DA := ⟨fun w ok => DepP w ok nbs l, fun h1 h2 h => ⟨h.1, fun i q nb a b => by
 obtain ⟨tb, p2, sl2, a1, a2, a3, a4, a5⟩ := h.2 i q nb a b
 exact ⟨tb, p2, sl2, a1, a2.mono h1 h2, a3.mono h1 h2, a4.mono h1 h2, a5.mono h1 h2⟩⟩⟩
theorem DepP.snoc {w : World} {ok : Nat → Prop} {nbs : List Nat} {l : List (ByteArray × List ByteArray)} {q : ByteArray × List ByteArray} {nb tb : Nat} {p2 : Addr} {sl2 : Value} (h : DepP w ok nbs l) (hq : q.1.size ≤ maxLen) (hb : BlkP w ok nb [.string q.1, ptr tb] 192) (ht : BlkP w ok tb [.pointer none, .pointer (some p2)] 194) (hp : PtsTo w ok p2 sl2) (hs : StrsP w ok sl2 q.2) :
  DepP w ok (nbs ++ [nb]) (l ++ [q]) := by
 refine ⟨by simp [h.1], fun i q' nb' a b => ?_⟩
 rcases Nat.lt_trichotomy i l.length with hi | hi | hi
 ·rw [List.getElem?_append_left hi] at a
  rw [List.getElem?_append_left (by rw [h.1]; exact hi)] at b
  exact h.2 i q' nb' a b
 ·subst hi
  rw [List.getElem?_append_right (Nat.le_refl _)] at a
  rw [List.getElem?_append_right (by rw [h.1]; exact Nat.le_refl _)] at b
  simp at a; simp [h.1] at b
  subst a; subst b
  exact ⟨tb, p2, sl2, hq, hb, ht, hp, hs⟩
 ·rw [List.getElem?_eq_none (by simp; omega)] at a; cases a
theorem pH {back : Bool} {v : V} (h : v.kind = 4) (h3 : ∀ y ∈ v.items, y.kind = 3) : nodeV back v = .mk 2 tSeq ⟨#[]⟩ ((v.items.map V.text).map (scal tStr)) := by
 rw [qN h]
 congr 1
 rw [List.map_map]
 refine List.map_congr_left fun y hy => ?_
 have := h3 y hy
 rw [wZ]
 simp [this]
abbrev depF (p : ByteArray × V) : ByteArray × List ByteArray := (p.1, p.2.items.map V.text)

theorem c141 (ft : DA) (sb nb mb : Nat) (cs : List Value) (back : Bool) (ps : List (ByteArray × V)) (hl : ps.length ≤ 1000000) (hcs : cs[0]? = some (.map (some mb))) (H : ∀ p ∈ ps, C103 ft mb back p.2) (es : Array MapEntry) (clock : Nat) (hes : MapOk es) :
  Ct Tryz.prog 141 #[ptr sb, ptr nb] [.blk sb cs 124, .obj mb (.map es clock)] [.node nb (.mk 4 tMap ⟨#[]⟩ ((ps.map (nodeP back)).flatMap prY)), ft] (fun u M' D' => ∃ p G es' clock' l, u = .pointer (some p) ∧ M' = [.blk sb cs 124, .many 124 (Gr.blks G), .obj mb (.map es' clock')] ∧ D' = [.fv u (.named l), .graph mb G] ∧
   All2 (URel G) l ps ∧ MapOk es' ∧ ((∀ p ∈ ps, NoId p.2) → es' = es ∧ clock' = clock)) := by
 refine Ct.of_run (args := [ptr sb, ptr nb]) Tryz.func141 (by kernel_rfl) rfl Tryz.ntmps141 rfl (fun c => ?_)
 refine yZ 0 rfl (fun A0 cap0 ht0 hv0 hl0 hc0 => ?_)
 rw [rJ]
 rw [rJ] at hl0
 unfold maxLen at hc0
 refine rO 13 rfl (zB xO rfl rfl ?_)
 refine zA (zF 0 sc146 rfl rfl rfl rfl ?_)
 refine oO 13 rfl (xD sl110 rfl rfl rfl (fun b16 => ?_))
 refine zA (zT ze110 rfl (fun b5 => ?_))
 change RunOps _ _ _ _ _ _ _ _ (HA.blk _ [_] _ :: _) _
 refine zA (zG 0 (M' := [HA.blk _ [_] _, _, _, _]) rfl rfl rfl rfl si110 rfl rfl rfl ?_)
 refine oK 8 [6, 5, 0, 1] rfl rfl (zY (.graph mb []) (fun w ok h g hg => by cases hg) ?_)
 refine zY (.nam [] []) (fun w ok h => ⟨rfl, fun i q nb a => by simp at a⟩) (tK 124 ?_)
 refine uZ (M' := HA.blk b5 [.slice (some ⟨b16, 0, none⟩) 0 0] 110 :: HA.row (some ⟨b16, 0, none⟩) 0 0 125 1 [] :: HA.many 124 [] :: HA.obj mb (.map es clock) :: HA.blk sb cs 124 :: []) ?_ ?_
 ·exact ((List.Perm.swap _ _ _).trans (.cons _ (List.Perm.swap _ _ _))).trans (.cons _ (.cons _ (.cons _ (List.Perm.swap _ _ _))))
 refine yS 1 (fun (⟨i, A, ca, nbs, es1, ck1, G, l⟩ : Nat × Option Addr × Nat × List Nat × Array MapEntry × Nat × Gr × List (ByteArray × Nat)) => i ≤ ps.length ∧ All2 (URel G) l (ps.take i) ∧ MapOk es1 ∧ ((∀ p ∈ ps.take i, NoId p.2) → es1 = es ∧ ck1 = clock)) (fun (⟨i, A, ca, nbs, es1, ck1, G, l⟩ : Nat × Option Addr × Nat × List Nat × Array MapEntry × Nat × Gr × List (ByteArray × Nat)) => [(6, .int .i64 ((2 * i : Nat) : Int))]) (fun (⟨i, A, ca, nbs, es1, ck1, G, l⟩ : Nat × Option Addr × Nat × List Nat × Array MapEntry × Nat × Gr × List (ByteArray × Nat)) => HA.blk b5 [.slice A i ca] 110 :: HA.row A i ca 125 1 (nbs.map ptr) :: HA.many 124 (Gr.blks G) :: HA.obj mb (.map es1 ck1) :: HA.blk sb cs 124 :: []) (fun (⟨i, A, ca, nbs, es1, ck1, G, l⟩ : Nat × Option Addr × Nat × List Nat × Array MapEntry × Nat × Gr × List (ByteArray × Nat)) => .nam nbs l :: .graph mb G :: .dblk nb (ycells 4 tMap ⟨#[]⟩ A0 (2 * ps.length) cap0) 150 :: .kids (.slice A0 (2 * ps.length) cap0) ((ps.map (nodeP back)).flatMap prY) :: .node nb (.mk 4 tMap ⟨#[]⟩ ((ps.map (nodeP back)).flatMap prY)) :: ft :: []) (fun (⟨i, A, ca, nbs, es1, ck1, G, l⟩ : Nat × Option Addr × Nat × List Nat × Array MapEntry × Nat × Gr × List (ByteArray × Nat)) => ps.length - i) (0, _, _, [], es, clock, [], []) (⟨by show 0 ≤ _; omega, All2.nil _, hes, fun _ => ⟨rfl, rfl⟩⟩) (eC rfl (eN _)) rfl rfl ?_ (eC rfl (eC rfl (eC rfl (eN _))))
 intro ⟨i, A, ca, nbs, es1, ck1, G, l⟩ hI K hK
 change Run _ _ _ _ _ [(6, _), (5, _), (0, _), (1, _)] [_, _, _, _, _] [_, _, _, _, _, _]
 obtain ⟨hi, hall, hok, hno⟩ := hI
 refine rO 10 rfl (zB xG rfl rfl ?_)
 refine zA (zF 2 sc148 rfl rfl rfl rfl ?_)
 refine zA (zZ sl148 rfl rfl ?_)
 refine zA (yT rfl rfl rfl ?_)
 refine yK (zM rfl (fun h23 => ?_) (fun h23 => ?_))
 ·refine rO 10 rfl (zB xG rfl rfl ?_)
  refine zA (zF 2 sc148 rfl rfl rfl rfl ?_)
  refine oO 3 rfl (xK (i := 2 * i) 3 sl148 rfl rfl rfl rfl (by omega) ?_)
  have hlt : i < ps.length := by omega
  refine wK 3 (2 * i) rfl (fm_get0 hlt) (fun b1 => ?_)
  refine vP 1 rfl (fun A1 cap1 ht1 hv1 hl1 hc1 => ?_)
  refine zA (yN sc102 rfl rfl (fun _ h => wL h (j := 2) rfl) ?_)
  refine oO 3 rfl (zB xR rfl rfl ?_)
  refine zA (zF 0 sc9 rfl rfl rfl rfl ?_)
  refine oK 3 [7, 6, 5, 0, 1] rfl rfl (rO 7 rfl ?_)
  refine zB xG rfl rfl (zA ?_)
  refine zF 6 sc148 rfl rfl rfl rfl (oO 3 rfl ?_)
  refine yL rfl rfl (by omega) (zA ?_)
  refine xK (i := 2 * i + 1) 7 sl148 rfl rfl rfl rfl (by omega) (wK 7 (2 * i + 1) rfl (fm_get1 hlt) (fun b2 => ?_))
  refine zA (yN sc102 rfl rfl (fun _ h => wL h (j := 0) rfl) ?_)
  refine oO 14 rfl (zB rA rfl rfl ?_)
  refine zA (vM 4 sc104 rfl rfl rfl hcs ?_)
  refine zA (xF 3 rfl rfl rfl (H _ (List.getElem_mem hlt) _ es1 ck1 hok) rfl (sub2 1 11 rfl rfl) (fun u50 M50 D50 hv50 => ?_))
  obtain ⟨b50, G50, es50, ck50, rfl, rfl, rfl, hU50, hO50, hN50, hI50⟩ := hv50
  refine zA (yF rfl rfl (bu179_0_1 ..) ?_)
  refine zA (yJ rfl rfl rfl (fun b52 => ?_))
  refine oK 3 [9, 6, 5, 0, 1] rfl rfl (rO 2 rfl ?_)
  refine zI 3 sc110 rfl rfl rfl rfl (oO 3 rfl ?_)
  refine zK sl110 rfl rfl rfl rfl rfl (fun b55 => ?_)
  refine zA ?_
  refine op_apd 5 0 sl110 (fun A56 c56 => ?_)
  refine zA (zG 4 (M' := [_, _, _, _, HA.blk _ [_] _, _, _, _]) rfl rfl rfl rfl si110 rfl rfl rfl ?_)
  refine oO 6 rfl (yP (s := ((2 * (i + 1) : Nat) : Int)) rfl rfl rfl (by omega) (by omega) (by omega) ?_)
  refine oR 3 rfl (yW 1 rfl (by simp [foots, HA.foot]) ?_)
  refine zY (.nam (nbs ++ [b52]) (l ++ [(ps[i].1, b50)])) (fun w ok h => NamP.snoc (dget h 8 rfl) hv1 (dget h 0 rfl)) (wR 2 10 rfl rfl ?_)
  refine uA 1 4 rfl rfl ?_
  rw [tD, qA]
  exact kQ (hK (i + 1, _, _, nbs ++ [b52], es50, ck50, G50 ++ G, l ++ [((ps[i]'hlt).1, b50)]) (⟨by show i + 1 ≤ _; omega, sF hlt (urel_l hall) ⟨rfl, unf_r hU50⟩, hO50, fun h => by obtain ⟨h1, h2⟩ := noid_step hlt h; obtain ⟨e1, e2⟩ := hno h1; obtain ⟨e3, e4⟩ := hN50 h2; exact ⟨e3.trans e1, e4.trans e2⟩⟩) (by show ps.length - (i + 1) < ps.length - i; omega)) (eC rfl (eC rfl (eC rfl (eC rfl (eN _))))) (hD := (subc 1 rfl (subc 0 rfl sQ)))
 refine rK 6 [4] rfl rfl ?_
 obtain rfl : i = ps.length := by omega
 rw [List.take_length] at hall hno
 refine qO 1 nbs rfl (by simp [foots, HA.foot]) rfl (yW 0 rfl (by simp [foots, HA.foot]) ?_)
 refine zY (.fv (ptr b5) (.named l)) (fun w ok h => ⟨_, _, nbs, rfl, vS (dget h 0 rfl) rfl, dget h 1 rfl, (dget h 2 rfl : (DA.nam nbs l).p w ok).1, (dget h 2 rfl : (DA.nam nbs l).p w ok).2⟩) (uZ (M' := HA.blk sb cs 124 :: HA.many 124 (Gr.blks G) :: HA.obj mb (.map es1 ck1) :: []) ?_ ?_)
 ·exact (List.Perm.cons _ (List.Perm.swap _ _ _)).trans (List.Perm.swap _ _ _)
 exact zC Tryz.results141 rfl ⟨_, G, es1, ck1, l, rfl, rfl, rfl, hall, hok, hno⟩ (List.Sublist.refl _) (subc 0 rfl (sub1 4 rfl))
theorem c145 (ft : DA) (sb nb mb : Nat) (cs : List Value) (back : Bool) (xs : List V) (hl : xs.length ≤ 1000000) (hk : ∀ x ∈ xs, x.kind = 5) (hcs : cs[0]? = some (.map (some mb))) (H : ∀ x ∈ xs, C103 ft mb back x) (es : Array MapEntry) (clock : Nat) (hes : MapOk es) :
  Ct Tryz.prog 145 #[ptr sb, ptr nb] [.blk sb cs 124, .obj mb (.map es clock)] [.node nb (.mk 2 tSeq ⟨#[]⟩ (xs.map (nodeV back))), ft] (fun u M' D' => ∃ p G es' clock' bs, u = .pointer (some p) ∧ M' = [.blk sb cs 124, .many 124 (Gr.blks G), .obj mb (.map es' clock')] ∧ D' = [.fv u (.list bs), .graph mb G] ∧
   All2 (fun b x => Unf G x b) bs xs ∧ MapOk es' ∧ ((∀ x ∈ xs, NoId x) → es' = es ∧ clock' = clock)) := by
 refine Ct.of_run (args := [ptr sb, ptr nb]) Tryz.func145 (by kernel_rfl) rfl Tryz.ntmps145 rfl (fun c => ?_)
 refine yZ 0 rfl (fun A0 cap0 ht0 hv0 hl0 hc0 => ?_)
 rw [List.length_map]
 rw [List.length_map] at hl0
 unfold maxLen at hc0
 refine rO 13 rfl (zB xO rfl rfl ?_)
 refine zA (zF 0 sc146 rfl rfl rfl rfl ?_)
 refine oO 13 rfl (xD sl137 rfl rfl rfl (fun b17 => ?_))
 refine zA (zT ze137 rfl (fun b5 => ?_))
 change RunOps _ _ _ _ _ _ _ _ (HA.blk _ [_] _ :: _) _
 refine zA (zG 0 (M' := [HA.blk _ [_] _, _, _, _]) rfl rfl rfl rfl si137 rfl rfl rfl ?_)
 refine oO 9 rfl (zB xG rfl rfl ?_)
 refine zA (zF 0 sc148 rfl rfl rfl rfl ?_)
 refine zA (zZ sl148 rfl rfl ?_)
 refine oK 3 [23, 22, 21, 5, 0] rfl rfl (rK 1 [23, 22, 21, 5, 0] rfl rfl ?_)
 refine zY (.graph mb []) (fun w ok h g hg => by cases hg) (tK 124 ?_)
 refine uZ (M' := HA.blk b5 [.slice (some ⟨b17, 0, none⟩) 0 0] 137 :: HA.row (some ⟨b17, 0, none⟩) 0 0 63 1 [] :: HA.many 124 [] :: HA.obj mb (.map es clock) :: HA.blk sb cs 124 :: []) ?_ ?_
 ·exact ((List.Perm.swap _ _ _).trans (.cons _ (List.Perm.swap _ _ _))).trans (.cons _ (.cons _ (.cons _ (List.Perm.swap _ _ _))))
 refine yS 1 (fun (⟨i, A, ca, bs, es1, ck1, G⟩ : Nat × Option Addr × Nat × List Nat × Array MapEntry × Nat × Gr) => i ≤ xs.length ∧ All2 (fun b x => Unf G x b) bs (xs.take i) ∧ MapOk es1 ∧ ((∀ p ∈ xs.take i, NoId p) → es1 = es ∧ ck1 = clock)) (fun (⟨i, A, ca, bs, es1, ck1, G⟩ : Nat × Option Addr × Nat × List Nat × Array MapEntry × Nat × Gr) => [(23, .int .i64 ((i : Nat) : Int))]) (fun (⟨i, A, ca, bs, es1, ck1, G⟩ : Nat × Option Addr × Nat × List Nat × Array MapEntry × Nat × Gr) => HA.blk b5 [.slice A i ca] 137 :: HA.row A i ca 63 1 (bs.map ptr) :: HA.many 124 (Gr.blks G) :: HA.obj mb (.map es1 ck1) :: HA.blk sb cs 124 :: []) (fun (⟨i, A, ca, bs, es1, ck1, G⟩ : Nat × Option Addr × Nat × List Nat × Array MapEntry × Nat × Gr) => .graph mb G :: .dblk nb (ycells 2 tSeq ⟨#[]⟩ A0 xs.length cap0) 150 :: .kids (.slice A0 xs.length cap0) (xs.map (nodeV back)) :: .node nb (.mk 2 tSeq ⟨#[]⟩ (xs.map (nodeV back))) :: ft :: []) (fun (⟨i, A, ca, bs, es1, ck1, G⟩ : Nat × Option Addr × Nat × List Nat × Array MapEntry × Nat × Gr) => xs.length - i) (0, _, _, [], es, clock, []) (⟨by show 0 ≤ _; omega, All2.nil _, hes, fun _ => ⟨rfl, rfl⟩⟩) (eC rfl (eN _)) rfl rfl ?_ (eC rfl (eC rfl (eC rfl (eC rfl (eN _)))))
 intro ⟨i, A, ca, bs, es1, ck1, G⟩ hI K hK
 change Run _ _ _ _ _ [(23, _), (22, _), (21, _), (5, _), (0, _)] [_, _, _, _, _] [_, _, _, _, _]
 obtain ⟨hi, hall, hok, hno⟩ := hI
 refine rO 3 rfl (yT rfl rfl rfl ?_)
 refine oR 2 rfl (zM rfl (fun h24 => ?_) (fun h24 => ?_))
 ·refine rO 6 rfl (xK 2 sl148 rfl rfl rfl rfl h24 ?_)
  have hlt : i < xs.length := h24
  have hk5 := rE (back := back) (hk _ (List.getElem_mem hlt))
  refine wK 2 i rfl (qL hlt) (fun b1 => ?_)
  refine ops_node 1 rfl (fun A1 cap1 ht1 hv1 hl1 hc1 => ?_)
  refine zA (yN sc102 rfl rfl (fun _ h => wL h (j := 2) rfl) ?_)
  refine oO 10 rfl (zB xO rfl rfl ?_)
  refine zA (zF 0 sc146 rfl rfl rfl rfl ?_)
  refine oK 9 [31, 7, 23, 22, 21, 5, 0] rfl rfl (wF rfl (decide_eq_true hk5) ?_)
  refine rO 9 rfl (zB rA rfl rfl ?_)
  refine zA (vM 4 sc104 rfl rfl rfl hcs ?_)
  refine zA (xF 3 rfl rfl rfl (H _ (List.getElem_mem hlt) _ es1 ck1 hok) rfl (sub2 3 8 rfl rfl) (fun u38 M38 D38 hv38 => ?_))
  obtain ⟨b38, G38, es38, ck38, rfl, rfl, rfl, hU38, hO38, hN38, hI38⟩ := hv38
  refine oO 5 rfl (zI 2 sc137 rfl rfl rfl rfl ?_)
  refine oO 3 rfl (zK sl137 rfl rfl rfl rfl rfl (fun b41 => ?_))
  refine zA ?_
  refine op_apd 4 0 sl137 (fun A42 c42 => ?_)
  refine zA (zG 3 (M' := [_, _, _, HA.blk _ [_] _, _, _, _]) rfl rfl rfl rfl si137 rfl rfl rfl ?_)
  refine oK 1 [23, 22, 21, 5, 0] rfl rfl (rO 4 rfl ?_)
  refine yL rfl rfl (by omega) (oR 3 rfl ?_)
  refine wR 0 5 rfl rfl (uA 1 4 rfl rfl ?_)
  rw [tD, qA]
  exact kQ (hK (i + 1, _, _, bs ++ [b38], es38, ck38, G38 ++ G) (⟨by show i + 1 ≤ _; omega, sF hlt (unf_l hall) (unf_r hU38), hO38, fun h => by obtain ⟨h1, h2⟩ := noids_step hlt h; obtain ⟨e1, e2⟩ := hno h1; obtain ⟨e3, e4⟩ := hN38 h2; exact ⟨e3.trans e1, e4.trans e2⟩⟩) (by show xs.length - (i + 1) < xs.length - i; omega)) (eC rfl (eC rfl (eC rfl (eC rfl (eC rfl (eN _)))))) (hD := (subc 0 rfl sQ))
 refine rR 6 rfl ?_
 obtain rfl : i = xs.length := by omega
 rw [List.take_length] at hall hno
 refine qO 1 bs rfl (by simp [foots, HA.foot]) rfl (yW 0 rfl (by simp [foots, HA.foot]) ?_)
 refine zY (.fv (ptr b5) (.list bs)) (fun w ok h => ⟨_, _, rfl, vS (dget h 0 rfl) rfl, dget h 1 rfl⟩) (uZ (M' := HA.blk sb cs 124 :: HA.many 124 (Gr.blks G) :: HA.obj mb (.map es1 ck1) :: []) ?_ ?_)
 ·exact (List.Perm.cons _ (List.Perm.swap _ _ _)).trans (List.Perm.swap _ _ _)
 exact zC Tryz.results145 rfl ⟨_, G, es1, ck1, bs, rfl, rfl, rfl, hall, hok, hno⟩ (List.Sublist.refl _) (subc 0 rfl (sub1 3 rfl))
theorem c139l (ft : DA) (sb nb mb : Nat) (cs : List Value) (back : Bool) (xs : List V) (hl : xs.length ≤ 1000000) (hk : ∀ x ∈ xs, x.kind = 5) (hcs : cs[0]? = some (.map (some mb))) (H : ∀ x ∈ xs, C103 ft mb back x) (es : Array MapEntry) (clock : Nat) (hes : MapOk es) :
  Ct Tryz.prog 139 #[ptr sb, ptr nb] [.blk sb cs 124, .obj mb (.map es clock)] [.node nb (.mk 2 tSeq ⟨#[]⟩ (xs.map (nodeV back))), ft] (fun u M' D' => ∃ p G es' clock' bs, u = .pointer (some p) ∧ M' = [.blk sb cs 124, .many 124 (Gr.blks G), .obj mb (.map es' clock')] ∧ D' = [.fv u (.itL bs), .graph mb G] ∧
   All2 (fun b x => Unf G x b) bs xs ∧ MapOk es' ∧ ((∀ x ∈ xs, NoId x) → es' = es ∧ clock' = clock)) := by
 refine Ct.of_run (args := [ptr sb, ptr nb]) Tryz.func139 (by kernel_rfl) rfl Tryz.ntmps139 rfl (fun c => ?_)
 refine yZ 0 rfl (fun A0 cap0 ht0 hv0 hl0 hc0 => ?_)
 rw [List.length_map]
 rw [List.length_map] at hl0
 unfold maxLen at hc0
 refine rO 13 rfl (zB xO rfl rfl ?_)
 refine zA (zF 0 sc146 rfl rfl rfl rfl ?_)
 refine oO 13 rfl (xD sl137 rfl rfl rfl (fun b16 => ?_))
 refine zA (zT ze137 rfl (fun b5 => ?_))
 change RunOps _ _ _ _ _ _ _ _ (HA.blk _ [_] _ :: _) _
 refine zA (zG 0 (M' := [HA.blk _ [_] _, _, _, _]) rfl rfl rfl rfl si137 rfl rfl rfl ?_)
 refine oO 9 rfl (zB xG rfl rfl ?_)
 refine zA (zF 0 sc148 rfl rfl rfl rfl ?_)
 refine zA (zZ sl148 rfl rfl ?_)
 refine oK 3 [22, 21, 20, 5, 0] rfl rfl (rK 1 [22, 21, 20, 5, 0] rfl rfl ?_)
 refine zY (.graph mb []) (fun w ok h g hg => by cases hg) (tK 124 ?_)
 refine uZ (M' := HA.blk b5 [.slice (some ⟨b16, 0, none⟩) 0 0] 137 :: HA.row (some ⟨b16, 0, none⟩) 0 0 63 1 [] :: HA.many 124 [] :: HA.obj mb (.map es clock) :: HA.blk sb cs 124 :: []) ?_ ?_
 ·exact ((List.Perm.swap _ _ _).trans (.cons _ (List.Perm.swap _ _ _))).trans (.cons _ (.cons _ (.cons _ (List.Perm.swap _ _ _))))
 refine yS 1 (fun (⟨i, A, ca, bs, es1, ck1, G⟩ : Nat × Option Addr × Nat × List Nat × Array MapEntry × Nat × Gr) => i ≤ xs.length ∧ All2 (fun b x => Unf G x b) bs (xs.take i) ∧ MapOk es1 ∧ ((∀ p ∈ xs.take i, NoId p) → es1 = es ∧ ck1 = clock)) (fun (⟨i, A, ca, bs, es1, ck1, G⟩ : Nat × Option Addr × Nat × List Nat × Array MapEntry × Nat × Gr) => [(22, .int .i64 ((i : Nat) : Int))]) (fun (⟨i, A, ca, bs, es1, ck1, G⟩ : Nat × Option Addr × Nat × List Nat × Array MapEntry × Nat × Gr) => HA.blk b5 [.slice A i ca] 137 :: HA.row A i ca 63 1 (bs.map ptr) :: HA.many 124 (Gr.blks G) :: HA.obj mb (.map es1 ck1) :: HA.blk sb cs 124 :: []) (fun (⟨i, A, ca, bs, es1, ck1, G⟩ : Nat × Option Addr × Nat × List Nat × Array MapEntry × Nat × Gr) => .graph mb G :: .dblk nb (ycells 2 tSeq ⟨#[]⟩ A0 xs.length cap0) 150 :: .kids (.slice A0 xs.length cap0) (xs.map (nodeV back)) :: .node nb (.mk 2 tSeq ⟨#[]⟩ (xs.map (nodeV back))) :: ft :: []) (fun (⟨i, A, ca, bs, es1, ck1, G⟩ : Nat × Option Addr × Nat × List Nat × Array MapEntry × Nat × Gr) => xs.length - i) (0, _, _, [], es, clock, []) (⟨by show 0 ≤ _; omega, All2.nil _, hes, fun _ => ⟨rfl, rfl⟩⟩) (eC rfl (eN _)) rfl rfl ?_ (eC rfl (eC rfl (eC rfl (eC rfl (eN _)))))
 intro ⟨i, A, ca, bs, es1, ck1, G⟩ hI K hK
 change Run _ _ _ _ _ [(22, _), (21, _), (20, _), (5, _), (0, _)] [_, _, _, _, _] [_, _, _, _, _]
 obtain ⟨hi, hall, hok, hno⟩ := hI
 refine rO 3 rfl (yT rfl rfl rfl ?_)
 refine oR 2 rfl (zM rfl (fun h23 => ?_) (fun h23 => ?_))
 ·refine rO 6 rfl (xK 2 sl148 rfl rfl rfl rfl h23 ?_)
  have hlt : i < xs.length := h23
  have hk5 := rE (back := back) (hk _ (List.getElem_mem hlt))
  refine wK 2 i rfl (qL hlt) (fun b1 => ?_)
  refine ops_node 1 rfl (fun A1 cap1 ht1 hv1 hl1 hc1 => ?_)
  refine zA (yN sc102 rfl rfl (fun _ h => wL h (j := 2) rfl) ?_)
  refine oO 10 rfl (zB xO rfl rfl ?_)
  refine zA (zF 0 sc146 rfl rfl rfl rfl ?_)
  refine oK 9 [30, 7, 22, 21, 20, 5, 0] rfl rfl (wF rfl (decide_eq_true hk5) ?_)
  refine rO 9 rfl (zB rA rfl rfl ?_)
  refine zA (vM 4 sc104 rfl rfl rfl hcs ?_)
  refine zA (xF 3 rfl rfl rfl (H _ (List.getElem_mem hlt) _ es1 ck1 hok) rfl (sub2 3 8 rfl rfl) (fun u37 M37 D37 hv37 => ?_))
  obtain ⟨b37, G37, es37, ck37, rfl, rfl, rfl, hU37, hO37, hN37, hI37⟩ := hv37
  refine oO 5 rfl (zI 2 sc137 rfl rfl rfl rfl ?_)
  refine oO 3 rfl (zK sl137 rfl rfl rfl rfl rfl (fun b40 => ?_))
  refine zA ?_
  refine op_apd 4 0 sl137 (fun A41 c41 => ?_)
  refine zA (zG 3 (M' := [_, _, _, HA.blk _ [_] _, _, _, _]) rfl rfl rfl rfl si137 rfl rfl rfl ?_)
  refine oK 1 [22, 21, 20, 5, 0] rfl rfl (rO 4 rfl ?_)
  refine yL rfl rfl (by omega) (oR 3 rfl ?_)
  refine wR 0 5 rfl rfl (uA 1 4 rfl rfl ?_)
  rw [tD, qA]
  exact kQ (hK (i + 1, _, _, bs ++ [b37], es37, ck37, G37 ++ G) (⟨by show i + 1 ≤ _; omega, sF hlt (unf_l hall) (unf_r hU37), hO37, fun h => by obtain ⟨h1, h2⟩ := noids_step hlt h; obtain ⟨e1, e2⟩ := hno h1; obtain ⟨e3, e4⟩ := hN37 h2; exact ⟨e3.trans e1, e4.trans e2⟩⟩) (by show xs.length - (i + 1) < xs.length - i; omega)) (eC rfl (eC rfl (eC rfl (eC rfl (eC rfl (eN _)))))) (hD := (subc 0 rfl sQ))
 refine rO 4 rfl (yF rfl rfl (bu187_1 ..) ?_)
 refine zA (yJ rfl rfl rfl (fun b44 => ?_))
 refine oR 3 rfl ?_
 obtain rfl : i = xs.length := by omega
 rw [List.take_length] at hall hno
 refine qO 2 bs rfl (by simp [foots, HA.foot]) rfl (yW 1 rfl (by simp [foots, HA.foot]) ?_)
 refine yW 0 rfl (by simp [foots, HA.foot]) (zY (.fv (ptr b44) (.itL bs)) (fun w ok h => ⟨b44, _, _, rfl, dget h 0 rfl, vS (dget h 1 rfl) rfl, dget h 2 rfl⟩) ?_)
 refine uZ (M' := HA.blk sb cs 124 :: HA.many 124 (Gr.blks G) :: HA.obj mb (.map es1 ck1) :: []) ?_ ?_
 ·exact (List.Perm.cons _ (List.Perm.swap _ _ _)).trans (List.Perm.swap _ _ _)
 exact zC Tryz.results139 rfl ⟨_, G, es1, ck1, bs, rfl, rfl, rfl, hall, hok, hno⟩ (List.Sublist.refl _) (subc 0 rfl (sub1 4 rfl))
theorem c138b (sp : Value) (nb : Nat) (x : Bool) : CtR Tryz.prog 138 #[sp, ptr nb] [.node nb (scal tBool (fbB x))] (RF (.sbB x)) := by
 refine Ct.of_run (args := [sp, ptr nb]) Tryz.func138 (by kernel_rfl) rfl Tryz.ntmps138 rfl (fun c => ?_)
 refine yZ 0 rfl (fun A0 cap0 ht0 hv0 hl0 hc0 => ?_)
 refine rO 8 rfl (yF rfl rfl (bu185 ..) ?_)
 refine zA (yJ rfl rfl rfl (fun b9 => ?_))
 refine oO 11 rfl (zB xO rfl rfl ?_)
 refine zA (zF 0 sc146 rfl rfl rfl rfl ?_)
 refine oO 17 rfl (zB xR rfl rfl ?_)
 refine zA (zF 0 sc9 rfl rfl rfl rfl ?_)
 refine zA (zJ rfl rfl rfl (c181 x) sub0 ?_)
 refine oO 7 rfl (zT ze4 rfl (fun b6 => ?_))
 change RunOps _ _ _ _ _ _ _ _ (HA.blk _ [_] _ :: _) _
 refine zA (zG 0 (M' := [HA.blk _ [_] _, _]) rfl rfl rfl rfl si4 rfl rfl rfl ?_)
 refine oK 3 [6, 5] rfl rfl (rO 6 rfl ?_)
 refine zB fo185_1 rfl rfl (zA ?_)
 refine zG 1 (M' := [_, HA.blk _ [_, _] _]) rfl rfl rfl rfl si112 rfl rfl rfl (oR 9 rfl ?_)
 refine yW 0 rfl (by intro b h; cases h) (yW 0 rfl (by intro b h; cases h) ?_)
 exact zY (.fv (ptr b9) (.sbB x)) (fun w ok h => ⟨b9, _, rfl, dget h 0 rfl, vS (dget h 1 rfl) rfl⟩) (zC Tryz.results138 rfl ⟨rfl, _, rfl, rfl⟩ nS (sub1 0 rfl))
theorem c138s (ft : DA) (sb nb mb : Nat) (cs : List Value) (back : Bool) (x : V) (hk : x.kind = 5) (hcs : cs[0]? = some (.map (some mb))) (H : C103 ft mb back x) (es : Array MapEntry) (clock : Nat) (hes : MapOk es) :
  Ct Tryz.prog 138 #[ptr sb, ptr nb] [.blk sb cs 124, .obj mb (.map es clock)] [.node nb (nodeV back x), ft] (fun u M' D' => ∃ p G es' clock' b, u = .pointer (some p) ∧ M' = [.blk sb cs 124, .many 124 (Gr.blks G), .obj mb (.map es' clock')] ∧ D' = [.fv u (.sbS b), .graph mb G] ∧
   Unf G x b ∧ MapOk es' ∧ (NoId x → es' = es ∧ clock' = clock)) := by
 refine Ct.of_run (args := [ptr sb, ptr nb]) Tryz.func138 (by kernel_rfl) rfl Tryz.ntmps138 rfl (fun c => ?_)
 have hk4 := rE (back := back) hk
 refine run_node 0 rfl (fun A0 cap0 ht0 hv0 hl0 hc0 => ?_)
 refine rO 8 rfl (yF rfl rfl (bu185 ..) ?_)
 refine zA (yJ rfl rfl rfl (fun b9 => ?_))
 refine oO 11 rfl (zB xO rfl rfl ?_)
 refine zA (zF 0 sc146 rfl rfl rfl rfl ?_)
 refine oR 9 rfl (yO rfl (by rw [hk4]; rfl) ?_)
 refine rK 7 [27, 5, 0, 1] rfl rfl (wF rfl (decide_eq_true hk4) ?_)
 refine rO 10 rfl (zB rA rfl rfl ?_)
 refine zA (vM 1 sc104 rfl rfl rfl hcs ?_)
 refine zA (xF 2 rfl rfl rfl (H _ es clock hes) rfl (sub2 2 3 rfl rfl) (fun u35 M35 D35 hv35 => ?_))
 obtain ⟨b35, G35, es35, ck35, rfl, rfl, rfl, hU35, hO35, hN35, hI35⟩ := hv35
 refine oO 3 rfl (zB fo185_0 rfl rfl ?_)
 refine zA (zG 2 (M' := [_, _, HA.blk _ [_, _] _, _]) rfl rfl rfl rfl si63 rfl rfl rfl ?_)
 refine oK 1 [5] rfl rfl (rR 8 rfl ?_)
 refine yW 2 rfl (by simp [foots, HA.foot]) (zY (.fv (ptr b9) (.sbS b35)) (fun w ok h => ⟨b9, rfl, dget h 0 rfl⟩) ?_)
 refine uZ (M' := HA.blk sb cs 124 :: HA.many 124 (Gr.blks G35) :: HA.obj mb (.map es35 ck35) :: []) ?_ ?_
 ·exact (List.Perm.cons _ (List.Perm.swap _ _ _)).trans (List.Perm.swap _ _ _)
 exact zC Tryz.results138 rfl ⟨_, G35, es35, ck35, b35, rfl, rfl, rfl, hU35, hO35, hN35⟩ (List.Sublist.refl _) (subc 0 rfl (sub1 2 rfl))
theorem c139s (ft : DA) (sb nb mb : Nat) (cs : List Value) (back : Bool) (x : V) (hk : x.kind = 5) (hcs : cs[0]? = some (.map (some mb))) (H : C103 ft mb back x) (es : Array MapEntry) (clock : Nat) (hes : MapOk es) :
  Ct Tryz.prog 139 #[ptr sb, ptr nb] [.blk sb cs 124, .obj mb (.map es clock)] [.node nb (nodeV back x), ft] (fun u M' D' => ∃ p G es' clock' b, u = .pointer (some p) ∧ M' = [.blk sb cs 124, .many 124 (Gr.blks G), .obj mb (.map es' clock')] ∧ D' = [.fv u (.itS b), .graph mb G] ∧
   Unf G x b ∧ MapOk es' ∧ (NoId x → es' = es ∧ clock' = clock)) := by
 refine Ct.of_run (args := [ptr sb, ptr nb]) Tryz.func139 (by kernel_rfl) rfl Tryz.ntmps139 rfl (fun c => ?_)
 have hk4 := rE (back := back) hk
 refine run_node 0 rfl (fun A0 cap0 ht0 hv0 hl0 hc0 => ?_)
 refine rO 13 rfl (zB xO rfl rfl ?_)
 refine zA (zF 0 sc146 rfl rfl rfl rfl ?_)
 refine oR 9 rfl (yO rfl (by rw [hk4]; rfl) ?_)
 refine rR 7 rfl (wF rfl (decide_eq_true hk4) ?_)
 refine rO 9 rfl (zB rA rfl rfl ?_)
 refine zA (vM 0 sc104 rfl rfl rfl hcs ?_)
 refine zA (xF 1 rfl rfl rfl (H _ es clock hes) rfl (sub2 2 3 rfl rfl) (fun u52 M52 D52 hv52 => ?_))
 obtain ⟨b52, G52, es52, ck52, rfl, rfl, rfl, hU52, hO52, hN52, hI52⟩ := hv52
 refine oK 3 [9] rfl rfl (rO 5 rfl ?_)
 refine yF rfl rfl (bu187_0 ..) (zA ?_)
 refine yJ rfl rfl rfl (fun b55 => ?_)
 refine oR 3 rfl (yW 0 rfl (by simp [foots, HA.foot]) ?_)
 refine zY (.fv (ptr b55) (.itS b52)) (fun w ok h => ⟨b55, rfl, dget h 0 rfl⟩) (uZ (M' := HA.blk sb cs 124 :: HA.many 124 (Gr.blks G52) :: HA.obj mb (.map es52 ck52) :: []) ?_ ?_)
 ·exact (List.Perm.cons _ (List.Perm.swap _ _ _)).trans (List.Perm.swap _ _ _)
 exact zC Tryz.results139 rfl ⟨_, G52, es52, ck52, b52, rfl, rfl, rfl, hU52, hO52, hN52⟩ (List.Sublist.refl _) (subc 0 rfl (sub1 2 rfl))
theorem c142 (sp : Value) (nb : Nat) (back : Bool) (ps : List (ByteArray × V)) (hl : ps.length ≤ 1000000) (hk : ∀ p ∈ ps, p.2.kind = 4 ∧ p.2.items.length ≤ 1000000 ∧ ∀ y ∈ p.2.items, y.kind = 3) : CtR Tryz.prog 142 #[sp, ptr nb] [.node nb (.mk 4 tMap ⟨#[]⟩ ((ps.map (nodeP back)).flatMap prY))] (RF (.deps (ps.map depF))) := by
 refine Ct.of_run (args := [sp, ptr nb]) Tryz.func142 (by kernel_rfl) rfl Tryz.ntmps142 rfl (fun c => ?_)
 refine yZ 0 rfl (fun A0 cap0 ht0 hv0 hl0 hc0 => ?_)
 rw [rJ]
 rw [rJ] at hl0
 unfold maxLen at hc0
 refine rO 8 rfl (xD sl188 rfl rfl rfl (fun b14 => ?_))
 refine zA (zT ze188 rfl (fun b5 => ?_))
 change RunOps _ _ _ _ _ _ _ _ (HA.blk _ [_] _ :: _) _
 refine zA (zG 0 (M' := [HA.blk _ [_] _, _]) rfl rfl rfl rfl si188 rfl rfl rfl ?_)
 refine oO 9 rfl (zB xO rfl rfl ?_)
 refine zA (zF 0 sc146 rfl rfl rfl rfl ?_)
 refine oK 15 [6, 5, 1] rfl rfl (rK 1 [6, 5, 1] rfl rfl ?_)
 refine zY (.dep [] ((ps.take 0).map depF)) (fun w ok h => ⟨rfl, fun i q nb a => by simp at a⟩) ?_
 refine yS 1 (fun (⟨i, A, ca, nbs⟩ : Nat × Option Addr × Nat × List Nat) => i ≤ ps.length) (fun (⟨i, A, ca, nbs⟩ : Nat × Option Addr × Nat × List Nat) => [(6, .int .i64 ((2 * i : Nat) : Int))]) (fun (⟨i, A, ca, nbs⟩ : Nat × Option Addr × Nat × List Nat) => HA.blk b5 [.slice A i ca] 188 :: HA.row A i ca 189 1 (nbs.map ptr) :: []) (fun (⟨i, A, ca, nbs⟩ : Nat × Option Addr × Nat × List Nat) => .dep nbs ((ps.take i).map depF) :: .dblk nb (ycells 4 tMap ⟨#[]⟩ A0 (2 * ps.length) cap0) 150 :: .kids (.slice A0 (2 * ps.length) cap0) ((ps.map (nodeP back)).flatMap prY) :: .node nb (.mk 4 tMap ⟨#[]⟩ ((ps.map (nodeP back)).flatMap prY)) :: []) (fun (⟨i, A, ca, nbs⟩ : Nat × Option Addr × Nat × List Nat) => ps.length - i) (0, _, _, []) (by show 0 ≤ _; omega) (eC rfl (eN _)) rfl rfl ?_ (eC rfl (eC rfl (eN _)))
 intro ⟨i, A, ca, nbs⟩ hI K hK
 replace hI : i ≤ ps.length := hI
 change Run _ _ _ _ _ [(6, _), (5, _), (1, _)] [_, _] [_, _, _, _]
 refine rO 10 rfl (zB xG rfl rfl ?_)
 refine zA (zF 1 sc148 rfl rfl rfl rfl ?_)
 refine zA (zZ sl148 rfl rfl ?_)
 refine zA (yT rfl rfl rfl ?_)
 refine yK (zM rfl (fun h27 => ?_) (fun h27 => ?_))
 ·refine rO 10 rfl (zB xG rfl rfl ?_)
  refine zA (zF 1 sc148 rfl rfl rfl rfl ?_)
  refine oO 3 rfl (xK (i := 2 * i) 2 sl148 rfl rfl rfl rfl (by omega) ?_)
  have hlt : i < ps.length := by omega
  obtain ⟨hk4, hkl, hk3⟩ := hk _ (List.getElem_mem hlt)
  have hnt := pH (back := back) hk4 hk3
  obtain ⟨tl, htl⟩ : ∃ tl, tl = ps[i].2.items.map V.text := ⟨_, rfl⟩
  rw [← htl] at hnt
  have htlen : tl.length ≤ 1000000 := by rw [htl, List.length_map]; exact hkl
  refine wK 2 (2 * i) rfl (fm_get0 hlt) (fun b1 => ?_)
  refine vP 1 rfl (fun A1 cap1 ht1 hv1 hl1 hc1 => ?_)
  refine zA (yN sc102 rfl rfl (fun _ h => wL h (j := 2) rfl) ?_)
  refine oO 3 rfl (zB xR rfl rfl ?_)
  refine zA (zF 0 sc9 rfl rfl rfl rfl ?_)
  refine oK 3 [7, 6, 5, 1] rfl rfl (rO 7 rfl ?_)
  refine zB xG rfl rfl (zA ?_)
  refine zF 5 sc148 rfl rfl rfl rfl (oO 3 rfl ?_)
  refine yL rfl rfl (by omega) (zA ?_)
  refine xK (i := 2 * i + 1) 6 sl148 rfl rfl rfl rfl (by omega) ?_
  refine wK 6 (2 * i + 1) rfl (by rw [fm_get1 hlt, hnt]) (fun b2 => ?_)
  refine vP 1 rfl (fun A2 cap2 ht2 hv2 hl2 hc2 => ?_)
  rw [List.length_map]
  rw [List.length_map] at hl2
  unfold maxLen at hc2
  refine zA (yN sc102 rfl rfl (fun _ h => wL h (j := 2) rfl) ?_)
  refine oO 10 rfl (zB xO rfl rfl ?_)
  refine zA (zF 0 sc146 rfl rfl rfl rfl ?_)
  refine oK 1 [51, 8, 7, 6, 5, 1] rfl rfl (rO 12 rfl ?_)
  refine xD sl22 rfl rfl rfl (fun b54 => ?_)
  refine zA (zT ze22 rfl (fun b9 => ?_))
  change RunOps _ _ _ _ _ _ _ _ (HA.blk _ [_] _ :: _) _
  refine zA (zG 0 (M' := [HA.blk _ [_] _, _, _, _]) rfl rfl rfl rfl si22 rfl rfl rfl ?_)
  refine oO 9 rfl (zB xG rfl rfl ?_)
  refine zA (zF 0 sc148 rfl rfl rfl rfl ?_)
  refine zA (zZ sl148 rfl rfl ?_)
  refine oK 3 [60, 59, 58, 9, 7, 6, 5, 1] rfl rfl (rK 1 [60, 59, 58, 9, 7, 6, 5, 1] rfl rfl ?_)
  refine run_loopM 1 (fun (⟨j, A3, c3, xs⟩ : Nat × Option Addr × Nat × List Value) => j ≤ tl.length ∧ xs = (tl.take j).map Value.string ∧ ∀ s ∈ tl.take j, s.size ≤ maxLen) (fun (⟨j, A3, c3, xs⟩ : Nat × Option Addr × Nat × List Value) => [(60, .int .i64 ((j : Nat) : Int))]) (fun (⟨j, A3, c3, xs⟩ : Nat × Option Addr × Nat × List Value) => HA.blk b9 [.slice A3 j c3] 22 :: HA.row A3 j c3 9 1 xs :: HA.blk b5 [.slice A i ca] 188 :: HA.row A i ca 189 1 (nbs.map ptr) :: []) (fun (⟨j, A3, c3, xs⟩ : Nat × Option Addr × Nat × List Value) => tl.length - j) (0, _, _, []) (⟨by show 0 ≤ _; omega, rfl, by simp⟩) (eC rfl (eN _)) rfl ?_ (eC rfl (eC rfl (eC rfl (eC rfl (eC rfl (eC rfl (eC rfl (eN _))))))))
  intro ⟨j, A3, c3, xs⟩ hI K hK1
  change Run _ _ _ _ _ [(60, _), (59, _), (58, _), (9, _), (7, _), (6, _), (5, _), (1, _)] [_, _, _, _] (_)
  obtain ⟨hj, hxs, hsz⟩ := hI
  refine rO 3 rfl (yT rfl rfl rfl ?_)
  refine oR 2 rfl (zM rfl (fun h61 => ?_) (fun h61 => ?_))
  ·refine rO 6 rfl (xK 1 sl148 rfl rfl rfl rfl h61 ?_)
   refine wK 1 j rfl (qL h61) (fun b3 => ?_)
   refine vP 1 rfl (fun A4 cap4 ht4 hv4 hl4 hc4 => ?_)
   refine zA (yN sc102 rfl rfl (fun _ h => wL h (j := 2) rfl) ?_)
   refine oO 10 rfl (zB xO rfl rfl ?_)
   refine zA (zF 0 sc146 rfl rfl rfl rfl ?_)
   refine oK 1 [67, 11, 60, 59, 58, 9, 7, 6, 5, 1] rfl rfl (rR 9 rfl ?_)
   refine yU yG (zQ ?_)
   refine tP 1 rfl wanted0 (zU rfl) (tP 2 rfl wanted0 (yR rfl) ?_)
   refine tP 3 rfl wanted0 (zX xR rfl) (yD ?_)
   refine tM 0 rfl wanted0 (xA 0 sc22 rfl rfl rfl) (tM 4 rfl wanted0 (uN 0 sc9 rfl rfl rfl) ?_)
   refine zN 5 (by decide +kernel) ?_
   refine zO (I2 := [[0], [], []]) rfl wanted0 (by decide +kernel) (fun Kd hKd => ?_)
   refine zK sl22 rfl rfl rfl rfl rfl (fun b75 => ?_)
   refine hKd _ _ _ (hC (zE (zE (zP)))) (zN 6 (by decide +kernel) ?_)
   refine zO (I2 := [[], [], []]) rfl wanted0 (by decide +kernel) (fun Kd hKd => ?_)
   refine op_apd 2 0 sl22 (fun A76 c76 => ?_)
   refine hKd _ _ _ (zE (zE (zE (zP)))) (zN 7 (by decide +kernel) ?_)
   refine zO (I2 := [[], [], []]) rfl wanted0 (by decide +kernel) (fun Kd hKd => ?_)
   refine zG 1 (M' := [_, HA.blk _ [_] _, _, _, _]) rfl rfl rfl rfl si22 rfl rfl rfl (hKd _ _ _ (zE (zE (zE (zP)))) ?_)
   refine yH (by decide +kernel) (rK 0 [60, 59, 58, 9, 7, 6, 5, 1] rfl rfl ?_)
   refine rO 4 rfl (yL rfl rfl (by omega) ?_)
   refine oR 3 rfl ?_
   exact kQ (hK1 (j + 1, _, _, xs ++ [.string (tl[j]'h61)]) (⟨by show j + 1 ≤ _; omega, by rw [hxs]; exact strs_step h61, szs_step h61 hsz hv4⟩) (by show tl.length - (j + 1) < tl.length - j; omega)) (eC rfl (eC rfl (eC rfl (eC rfl (eC rfl (eC rfl (eC rfl (eC rfl (eN _)))))))))
  refine rO 4 rfl (yF rfl rfl (bu194 ..) ?_)
  refine zA (yJ rfl rfl rfl (fun b79 => ?_))
  refine oO 10 rfl (zB fo194_1 rfl rfl ?_)
  refine zA (zG 0 (M' := [HA.blk _ [_, _] _, _, _, _, _]) rfl rfl rfl rfl si117 rfl rfl rfl ?_)
  refine oK 1 [12, 7, 6, 5, 1] rfl rfl (rO 7 rfl ?_)
  refine yF rfl rfl (bu192_0_1 ..) (zA ?_)
  refine yJ rfl rfl rfl (fun b86 => ?_)
  refine oO 5 rfl (zI 4 sc188 rfl rfl rfl rfl ?_)
  refine oO 3 rfl (zK sl188 rfl rfl rfl rfl rfl (fun b89 => ?_))
  refine zA ?_
  refine op_apd 6 0 sl188 (fun A90 c90 => ?_)
  refine zA (zG 5 (M' := [_, _, _, _, _, HA.blk _ [_] _, _]) rfl rfl rfl rfl si188 rfl rfl rfl ?_)
  refine oK 1 [6, 5, 1] rfl rfl (rO 6 rfl ?_)
  refine yP (s := ((2 * (i + 1) : Nat) : Int)) rfl rfl rfl (by omega) (by omega) (by omega) (oR 3 rfl ?_)
  obtain rfl : j = tl.length := by omega
  rw [List.take_length] at hxs hsz
  refine wQ 4 tl rfl (by intro b h; cases h) hxs hsz (yW 3 rfl (by intro b h; cases h) ?_)
  refine yW 2 rfl (by intro b h; cases h) (yW 1 rfl (by intro b h; cases h) ?_)
  refine zY (.dep (nbs ++ [b86]) ((ps.take i).map depF ++ [depF ps[i]])) (fun w ok h => DepP.snoc (dget h 12 rfl) hv1 (dget h 0 rfl) (dget h 1 rfl) (vS (dget h 2 rfl) rfl) (by show StrsP w ok _ (ps[i].2.items.map V.text); rw [← htl]; exact dget h 3 rfl)) ?_
  rw [uM hlt, qA]
  exact kQ (hK (i + 1, _, _, nbs ++ [b86]) (by show i + 1 ≤ _; omega) (by show ps.length - (i + 1) < ps.length - i; omega)) (eC rfl (eC rfl (eC rfl (eN _)))) (hD := (subc 0 rfl sQ))
 refine rK 7 [4] rfl rfl ?_
 obtain rfl : i = ps.length := by omega
 rw [List.take_length]
 refine qO 1 nbs rfl (by intro b h; cases h) rfl (yW 0 rfl (by intro b h; cases h) ?_)
 exact zY (.fv (ptr b5) (.deps (ps.map depF))) (fun w ok h => ⟨_, _, nbs, rfl, vS (dget h 0 rfl) rfl, dget h 1 rfl, (dget h 2 rfl : (DA.dep nbs (ps.map depF)).p w ok).1, (dget h 2 rfl : (DA.dep nbs (ps.map depF)).p w ok).2⟩) (zC Tryz.results142 rfl ⟨rfl, _, rfl, rfl⟩ nS (sub1 0 rfl))
end Go.Jw

namespace Go.Jw
open Go Go.RowKit Go.Proofs
set_option maxRecDepth 8000
theorem Ct.frame {P : Program} {f : FuncId} {args : Array Value} {M N : List HA} {D : List DA} {R : Value → List HA → List DA → Prop} (h : Ct P f args M D R) : Ct P f args (M ++ N) D (fun u M' D' => ∃ M1, M' = M1 ++ N ∧ R u M1 D') := by
 refine ⟨h.1, fun w ok hok hM hn hD => ?_⟩
 rw [yI] at hn
 have hn1 := List.nodup_append.1 hn
 have hltN : ∀ b ∈ foots N, b < w.heap.size := fun b hb => by
  obtain ⟨x, hx, hb⟩ := uV.1 hb
  exact HA.foot_lt (hM x (List.mem_append_right _ hx)) b hb
 refine Calls.mono (h.2 w ok (fun k hk => ⟨(hok k hk).1, fun h' => (hok k hk).2 (by rw [yI]; exact List.mem_append_left _ h')⟩) (fun x hx => hM x (List.mem_append_left _ hx)) hn1.1 hD) ?_
 rintro e w' ⟨v, M', D', rfl, hR, hchg, hm, hnd, hft, hdat⟩
 refine ⟨v, M' ++ N, D', rfl, ⟨M', rfl, hR⟩, hchg.mono (fun k _ hk => by rw [yI]; exact List.mem_append_left _ hk), ?_, ?_, ?_, ?_⟩
 ·intro x hx
  rcases List.mem_append.1 hx with hx | hx
  ·exact hm x hx
  ·have hx0 := hM x (List.mem_append_right _ hx)
   exact HA.move hx0 fun b hb => hchg.block b (HA.foot_lt hx0 b hb) (fun h' => hn1.2.2 b h' b (uV.2 ⟨x, hx, hb⟩) rfl)
 ·rw [yI]
  refine List.nodup_append.2 ⟨hnd, hn1.2.1, ?_⟩
  intro p hp q hq he
  subst he
  rcases hft p hp with h1 | h1
  ·exact hn1.2.2 p h1 p hq rfl
  ·exact absurd (hltN p hq) (by omega)
 ·intro b hb
  rw [yI] at hb ⊢
  rcases List.mem_append.1 hb with hb | hb
  ·exact (hft b hb).elim (fun h1 => .inl (List.mem_append_left _ h1)) .inr
  ·exact .inl (List.mem_append_right _ hb)
 ·intro x hx
  refine x.mono (fun k hk => ⟨hk.1, hk.2.1, ?_⟩) (fun _ _ => rfl) (hdat x hx)
  rw [yI, List.mem_append, not_or]
  refine ⟨hk.2.2, fun h' => ?_⟩
  rcases hk.1 with h1 | h1
  ·exact (hok k h1).2 (by rw [yI]; exact List.mem_append_right _ h')
  ·exact absurd (hltN k h') (by omega)
def RB (mb : Nat) (es : Array MapEntry) (clock sb : Nat) (cs : List Value) (sh : Int) (x : V) (u : Value) (M' : List HA) (D' : List DA) : Prop :=
 ∃ p fv G es' clock', u = .pointer (some p) ∧ M' = [.blk sb cs 124, .many 124 (Gr.blks G), .obj mb (.map es' clock')] ∧ D' = [.fv u fv, .graph mb G] ∧ FvRel (fun b z => Unf G z b) sh x fv ∧ MapOk es' ∧ ((∀ z ∈ kidsOf sh x, NoId z) → es' = es ∧ clock' = clock)
def BC (ft : DA) (back : Bool) (f : FuncId) (sh : Int) (x : V) : Prop := ∀ sb nb mb cs es clock, cs[0]? = some (.map (some mb)) → MapOk es → Ct Tryz.prog f #[ptr sb, ptr nb] [.blk sb cs 124, .obj mb (.map es clock)] [.node nb (nodeV back x), ft] (RB mb es clock sb cs sh x)
theorem Ct.data {P : Program} {f : FuncId} {args : Array Value} {M : List HA} {D D2 : List DA} {R : Value → List HA → List DA → Prop} (h : Ct P f args M D R) (hs : ∀ d ∈ D, d ∈ D2) : Ct P f args M D2 R :=
 ⟨h.1, fun w ok hok hM hn hD => h.2 w ok hok hM hn (fun d hd => hD d (hs d hd))⟩
theorem bc_lift {ft : DA} {back : Bool} {f : FuncId} {sh : Int} {x : V} (h : ∀ sb nb, CtR Tryz.prog f #[ptr sb, ptr nb] [.node nb (nodeV back x), ft] (fun u D' => ∃ p fv, u = .pointer (some p) ∧ D' = [.fv u fv] ∧ FvRel (fun _ _ => False) sh x fv)) : BC ft back f sh x := by
 intro sb nb mb cs es clock hcs hes
 have hfr : Ct Tryz.prog f #[ptr sb, ptr nb] ([] ++ [.blk sb cs 124, .obj mb (.map es clock)]) [.node nb (nodeV back x), ft] _ := Ct.frame (N := [.blk sb cs 124, .obj mb (.map es clock)]) (h sb nb)
 refine ⟨hfr.1, fun w ok hok hM hn hD => Calls.mono (hfr.2 w ok hok hM hn hD) ?_⟩
 rintro e w' ⟨v, M', D', rfl, ⟨M1, rfl, rfl, p, fv, rfl, rfl, hrel⟩, hchg, hm, hn', hft, hd⟩
 refine ⟨_, [.blk sb cs 124, .many 124 (Gr.blks []), .obj mb (.map es clock)], [.fv (.pointer (some p)) fv, .graph mb []], rfl, ⟨p, fv, [], es, clock, rfl, rfl, rfl, hrel.mono (fun _ _ _ h => h.elim), hes, fun _ => ⟨rfl, rfl⟩⟩, hchg, ?_, ?_, ?_, ?_⟩
 ·intro y hy
  simp only [List.mem_cons, List.not_mem_nil, or_false] at hy
  rcases hy with rfl | rfl | rfl
  ·exact hm _ (by simp)
  ·intro g hg; cases hg
  ·exact hm _ (by simp)
 ·simpa [foots, HA.foot, Gr.blks] using hn'
 ·intro b hb; exact hft b (by simpa [foots, HA.foot, Gr.blks] using hb)
 ·intro y hy
  simp only [List.mem_cons, List.not_mem_nil, or_false] at hy
  rcases hy with rfl | rfl
  ·exact (hd _ List.mem_cons_self : _) |> DA.mono _ (fun k hk => ⟨hk.1, hk.2.1, by simpa [foots, HA.foot, Gr.blks] using hk.2.2⟩) (fun _ _ => rfl)
  ·intro g hg; cases hg
theorem CtR.mono {P : Program} {f : FuncId} {args : Array Value} {D : List DA} {R R' : Value → List DA → Prop} (h : CtR P f args D R) (hr : ∀ u D', R u D' → R' u D') : CtR P f args D R' :=
 ⟨h.1, fun w ok hok hM hn hD => Calls.mono (h.2 w ok hok hM hn hD) (by
  rintro e w' ⟨v, M', D', rfl, ⟨h1, h2⟩, rest⟩
  exact ⟨v, M', D', rfl, ⟨h1, hr _ _ h2⟩, rest⟩)⟩
theorem Ct.mono {P : Program} {f : FuncId} {args : Array Value} {M : List HA} {D : List DA} {R R' : Value → List HA → List DA → Prop} (h : Ct P f args M D R) (hr : ∀ u M' D', R u M' D' → R' u M' D') : Ct P f args M D R' :=
 ⟨h.1, fun w ok hok hM hn hD => Calls.mono (h.2 w ok hok hM hn hD) (by
  rintro e w' ⟨v, M', D', rfl, h2, rest⟩
  exact ⟨v, M', D', rfl, hr _ _ _ h2, rest⟩)⟩
theorem nodeV_str {back : Bool} {x : V} (h : x.kind = 3) : nodeV back x = scal tStr x.text := by rw [wZ]; simp [h]
theorem nodeV_bool {back : Bool} {x : V} (h : x.kind = 1) : nodeV back x = scal tBool (fbB (decide (x.num = 1))) := by rw [wZ]; simp [h]
theorem vQ {f : FuncId} {sh : Int} {x : V} {back : Bool} {ft : DA} {fv : FVal} {y : Y} (hy : nodeV back x = y) (h : ∀ sp nb, CtR Tryz.prog f #[sp, ptr nb] [.node nb y] (RF fv)) (hr : FvRel (fun _ _ => False) sh x fv) : BC ft back f sh x :=
 bc_lift fun sb nb => by
  have h1 : CtR Tryz.prog f #[ptr sb, ptr nb] [.node nb y, ft] (RF fv) := Ct.data (h (ptr sb) nb) (fun d hd => by rw [List.mem_singleton.1 hd]; exact List.mem_cons_self)
  rw [hy]
  exact h1.mono (by rintro u D' ⟨p, rfl, rfl⟩; exact ⟨p, fv, rfl, rfl, hr⟩)
theorem bc1 {ft : DA} {back : Bool} {x : V} (h : x.kind = 3) : BC ft back 134 1 x := vQ (nodeV_str h) (fun sp nb => c134 sp nb _ _) ⟨rfl, rfl⟩
theorem bc2 {ft : DA} {back : Bool} {x : V} (h : x.kind = 1) : BC ft back 136 2 x := vQ (nodeV_bool h) (fun sp nb => c136 sp nb _) ⟨rfl, rfl⟩
theorem bc8 {ft : DA} {back : Bool} {x : V} (h : x.kind = 4) (hl : x.items.length ≤ 1000000) (h3 : ∀ y ∈ x.items, y.kind = 3) : BC ft back 140 8 x := vQ (pH h h3) (fun sp nb => c140 sp nb _ (by simpa using hl)) ⟨rfl, rfl⟩
theorem bc12s {ft : DA} {back : Bool} {x : V} (h : x.kind = 3) : BC ft back 144 12 x := vQ (nodeV_str h) (fun sp nb => c144s sp nb _ _) ⟨rfl, h, rfl⟩
theorem bc12l {ft : DA} {back : Bool} {x : V} (h : x.kind = 4) (hl : x.items.length ≤ 1000000) (h3 : ∀ y ∈ x.items, y.kind = 3) : BC ft back 144 12 x := vQ (pH h h3) (fun sp nb => c144l sp nb _ (by simpa using hl)) ⟨rfl, h, rfl⟩
theorem nodeV_enums {back : Bool} {v : V} (h : v.kind = 4) (h3 : ∀ y ∈ v.items, y.kind = 3 ∨ y.kind = 1) : nodeV back v = .mk 2 tSeq ⟨#[]⟩ ((v.items.map evOf).map evY) := by
 rw [qN h]
 congr 1
 rw [List.map_map]
 refine List.map_congr_left fun y hy => ?_
 simp only [Function.comp]
 unfold evOf
 rcases h3 y hy with h1 | h1
 ·rw [if_pos h1, nodeV_str h1]; rfl
 ·rw [if_neg (by omega), nodeV_bool h1]; rfl
theorem bc11 {ft : DA} {back : Bool} {x : V} (h : x.kind = 4) (hl : x.items.length ≤ 1000000) (h3 : ∀ y ∈ x.items, y.kind = 3 ∨ y.kind = 1) : BC ft back 143 11 x := vQ (nodeV_enums h h3) (fun sp nb => c143 sp nb _ (by simpa using hl)) ⟨rfl, rfl⟩
theorem uO (back : Bool) (v : V) : (prs back v).Perm (v.keys.zip v.items) := by
 unfold prs
 split
 ·exact List.reverse_perm _
 ·exact .refl _
theorem pI {back : Bool} {v : V} {p : ByteArray × V} (h : p ∈ prs back v) : p.2 ∈ v.items := (List.of_mem_zip ((uO back v).mem_iff.1 h)).2
theorem prs_len (back : Bool) (v : V) : (prs back v).length ≤ v.keys.length := by rw [(uO back v).length_eq, List.length_zip]; omega
theorem bc10 {ft : DA} {back : Bool} {x : V} (h : x.kind = 5) (hl : x.keys.length ≤ 1000000) (h3 : ∀ y ∈ x.items, y.kind = 4 ∧ y.items.length ≤ 1000000 ∧ ∀ z ∈ y.items, z.kind = 3) : BC ft back 142 10 x :=
 vQ (sE h) (fun sp nb => c142 sp nb back (prs back x) (Nat.le_trans (prs_len back x) hl) (fun p hp => h3 _ (pI hp))) ⟨rfl, prs back x, uO back x, rfl⟩
theorem bc6b {ft : DA} {back : Bool} {x : V} (h : x.kind = 1) : BC ft back 138 6 x := vQ (nodeV_bool h) (fun sp nb => c138b sp nb _) ⟨rfl, h, rfl⟩
theorem kids6 {x : V} (h : x.kind = 5) : kidsOf 6 x = [x] := by simp [kidsOf, h]
theorem kids7 {x : V} (h : x.kind = 5) : kidsOf 7 x = [x] := by simp [kidsOf, h]
theorem kids7l {x : V} (h : x.kind = 4) (h5 : ∀ y ∈ x.items, y.kind = 5) : kidsOf 7 x = x.items := by
 simp only [kidsOf, h]
 simp
 exact h5
theorem kids9 {x : V} (h5 : ∀ y ∈ x.items, y.kind = 5) : kidsOf 9 x = x.items := by simp [kidsOf]; exact h5
theorem kids13 {x : V} (h5 : ∀ y ∈ x.items, y.kind = 5) : kidsOf 13 x = x.items := by simp [kidsOf]; exact h5
theorem bc6s {ft : DA} {back : Bool} {x : V} (h : x.kind = 5) (H : ∀ mb, C103 ft mb back x) : BC ft back 138 6 x := by
 intro sb nb mb cs es clock hcs hes
 refine (c138s ft sb nb mb cs back x h hcs (H mb) es clock hes).mono ?_
 rintro u M' D' ⟨p, G, es', ck', b, rfl, rfl, rfl, hU, hO, hN⟩
 exact ⟨p, _, G, es', ck', rfl, rfl, rfl, ⟨rfl, h, hU⟩, hO, fun hz => hN (hz x (by rw [kids6 h]; simp))⟩
theorem bc7s {ft : DA} {back : Bool} {x : V} (h : x.kind = 5) (H : ∀ mb, C103 ft mb back x) : BC ft back 139 7 x := by
 intro sb nb mb cs es clock hcs hes
 refine (c139s ft sb nb mb cs back x h hcs (H mb) es clock hes).mono ?_
 rintro u M' D' ⟨p, G, es', ck', b, rfl, rfl, rfl, hU, hO, hN⟩
 exact ⟨p, _, G, es', ck', rfl, rfl, rfl, ⟨rfl, h, hU⟩, hO, fun hz => hN (hz x (by rw [kids7 h]; simp))⟩
theorem bc7l {ft : DA} {back : Bool} {x : V} (h : x.kind = 4) (hl : x.items.length ≤ 1000000) (h5 : ∀ y ∈ x.items, y.kind = 5) (H : ∀ y ∈ x.items, ∀ mb, C103 ft mb back y) : BC ft back 139 7 x := by
 intro sb nb mb cs es clock hcs hes
 rw [qN h]
 refine (c139l ft sb nb mb cs back x.items hl h5 hcs (fun y hy => H y hy mb) es clock hes).mono ?_
 rintro u M' D' ⟨p, G, es', ck', b, rfl, rfl, rfl, hU, hO, hN⟩
 exact ⟨p, _, G, es', ck', rfl, rfl, rfl, ⟨rfl, h, hU⟩, hO, fun hz => hN (by rwa [kids7l h h5] at hz)⟩
theorem bc13 {ft : DA} {back : Bool} {x : V} (h : x.kind = 4) (hl : x.items.length ≤ 1000000) (h5 : ∀ y ∈ x.items, y.kind = 5) (H : ∀ y ∈ x.items, ∀ mb, C103 ft mb back y) : BC ft back 145 13 x := by
 intro sb nb mb cs es clock hcs hes
 rw [qN h]
 refine (c145 ft sb nb mb cs back x.items hl h5 hcs (fun y hy => H y hy mb) es clock hes).mono ?_
 rintro u M' D' ⟨p, G, es', ck', b, rfl, rfl, rfl, hU, hO, hN⟩
 exact ⟨p, _, G, es', ck', rfl, rfl, rfl, ⟨rfl, hU⟩, hO, fun hz => hN (by rwa [kids13 h5] at hz)⟩
theorem bc9 {ft : DA} {back : Bool} {x : V} (h : x.kind = 5) (hl : x.keys.length ≤ 1000000) (h5 : ∀ y ∈ x.items, y.kind = 5) (H : ∀ y ∈ x.items, ∀ mb, C103 ft mb back y) : BC ft back 141 9 x := by
 intro sb nb mb cs es clock hcs hes
 rw [sE h]
 refine (c141 ft sb nb mb cs back (prs back x) (Nat.le_trans (prs_len back x) hl) hcs (fun p hp => H _ (pI hp) mb) es clock hes).mono ?_
 rintro u M' D' ⟨p, G, es', ck', l, rfl, rfl, rfl, hU, hO, hN⟩
 exact ⟨p, _, G, es', ck', rfl, rfl, rfl, ⟨rfl, _, uO back x, hU⟩, hO, fun hz => hN (fun p hp => hz _ (by rw [kids9 h5]; exact pI hp))⟩
end Go.Jw

namespace Go.Jw
open Go Go.RowKit
section rules
variable {P : Program} {n : Nat} {F : List Nat} {c : Ctx F} {ops : Array Oper} {d : Nat} {T : TypeId} {l : List Oper} {k : List KI} {Q : Post} {e : Env} {M : List HA} {D : List DA}
theorem xH {x : Operand} {p : Option Addr} {S S' : TypeId} (hS : P.underlying S = some (.pointer (P.pointee S))) (hd : Nat.blt d n = true) (hx : ev e x = some (.pointer p)) (next : RunOps P n c ops l k Q ((d, .bool p.isSome) :: e) M D) :
  RunOp P n c ops (some d) (.binOp .neq S x (.const (.pointer none)) S') T l k Q e M D :=
 xJ hd (fun a w hf => by
  have h1 := run_neq_pointer_nil (P := P) (w := w) S p hS
  have h2 : a.eval (.const (.pointer none)) = .pointer none := rfl
  cases p <;> simp_all [execOp, opr, hf.ev hx, qW]) next
theorem sG {x : Operand} {p : Option Addr} {S S' : TypeId} (hS : P.underlying S = some (.pointer (P.pointee S))) (hd : Nat.blt d n = true) (hx : ev e x = some (.pointer p)) (next : RunOps P n c ops l k Q ((d, .bool p.isNone) :: e) M D) :
  RunOp P n c ops (some d) (.binOp .eql S x (.const (.pointer none)) S') T l k Q e M D :=
 xJ hd (fun a w hf => by
  have h1 := run_eql_pointer_nil (P := P) (w := w) S p hS
  have h2 : a.eval (.const (.pointer none)) = .pointer none := rfl
  cases p <;> simp_all [execOp, opr, hf.ev hx, qW]) next
theorem op_eqlNilM {x : Operand} {r : Option Nat} {S S' kt et : TypeId} (hS : P.underlying S = some (.map kt et)) (hd : Nat.blt d n = true) (hx : ev e x = some (.map r)) (next : RunOps P n c ops l k Q ((d, .bool r.isNone) :: e) M D) :
  RunOp P n c ops (some d) (.binOp .eql S x (.const (.map none)) S') T l k Q e M D :=
 xJ hd (fun a w hf => by
  have h1 := run_eql_map_nil (P := P) w S kt et r hS
  have h2 : a.eval (.const (.map none)) = .map none := rfl
  have h3 : (eqGuard .eql S x (.const (.map none)) (.map r) (.map none)).run P w = .ok () w := by simp [eqGuard]
  cases r <;> simp_all [execOp, opr, hf.ev hx]) next
end rules
end Go.Jw

namespace Go.Jw
open Go Go.RowKit Go.Proofs
set_option maxRecDepth 8000
open Go.Proofs
def bldOf (i : Nat) : FuncId := match i with
  | 1 => 134
  | 2 => 134
  | 3 => 134
  | 6 => 135
  | 7 => 135
  | 8 => 136
  | 9 => 135
  | 10 => 136
  | 11 => 137
  | 12 => 137
  | 13 => 134
  | 14 => 138
  | 15 => 139
  | 16 => 137
  | 17 => 137
  | 18 => 136
  | 19 => 137
  | 20 => 137
  | 21 => 140
  | 22 => 138
  | 23 => 141
  | 24 => 141
  | 25 => 142
  | 26 => 143
  | 27 => 144
  | 28 => 145
  | 29 => 145
  | 30 => 145
  | 32 => 141
  | 33 => 134
  | 34 => 134
  | 36 => 134
  | _ => 0
theorem pn111 : Tryz.prog.underlying 111 = some (.pointer (Tryz.prog.pointee 111)) := by
 have h := Tryz.underlying111
 unfold Program.pointee
 rw [h]
theorem mp104 : Tryz.prog.underlying 104 = some (.map 9 63) := Tryz.underlying104
theorem RelAt.stepK {G G' : Gr} {back : Bool} {v : V} {i k : Nat} {f : Flds} {p : ByteArray × V} {fv : FVal} (hr : RelAt G back v i f) (hp : (prs back v)[i]? = some p) (hk : kwIdx p.1 = k) (hf : FvRel (fun b x => Unf G' x b) (shIdx k) p.2 fv) : RelAt (G' ++ G) back v (i + 1) (f.set k fv) := by
 subst hk
 exact (hr.mono fun g hg => List.mem_append_right _ hg).step hp (hf.mono fun b x _ h => Unf.mono (fun g hg => List.mem_append_left _ hg) _ _ h)
theorem RelAt.stepA {G : Gr} {back : Bool} {v : V} {i k : Nat} {f : Flds} {p : ByteArray × V} {fv : FVal} (hr : RelAt G back v i f) (hp : (prs back v)[i]? = some p) (hk : kwIdx p.1 = k) (hf : FvRel (fun b x => Unf G x b) (shIdx k) p.2 fv) : RelAt G back v (i + 1) (f.set k fv) := by
 subst hk
 exact hr.step hp hf
abbrev NIs (l : List (ByteArray × V)) : Prop := ∀ p ∈ l, ∀ z ∈ kidsOf (shapeOf p.1) p.2, NoId z
theorem sU {l : List (ByteArray × V)} {i : Nat} (hi : i < l.length) (h : NIs (l.take (i + 1))) : NIs (l.take i) ∧ ∀ z ∈ kidsOf (shapeOf l[i].1) l[i].2, NoId z := by
 unfold NIs at h
 rw [List.take_add_one, List.getElem?_eq_getElem hi] at h
 exact ⟨fun p hp => h p (List.mem_append_left _ hp), h _ (List.mem_append_right _ (by simp))⟩
theorem pX : ∀ (x y : List UInt8), Op.bytesLess x y = decide (x < y)
  | x, [] => by cases x <;> simp [Op.bytesLess]
  | [], _ :: _ => by simp [Op.bytesLess]
  | a :: x, b :: y => by
    have ih := pX x y
    by_cases h1 : a < b <;> by_cases h2 : a = b <;> by_cases h3 : x < y <;> simp [Op.bytesLess, ih, List.cons_lt_cons_iff, h1, h2, h3]
theorem prs_get {back : Bool} {v : V} (hw : Wf v) (hk5 : v.kind = 5) (hko : KeysOk v.keys) {p : ByteArray × V} (hp : p ∈ prs back v) : getV v p.1 = some p.2 := by
  have hp' := (uO back v).mem_iff.1 hp
  obtain ⟨j, hj, he⟩ := List.getElem_of_mem hp'
  have hl := hw.eq hk5
  simp only [List.length_zip] at hj
  rw [List.getElem_zip] at he
  subst he
  have hf : findI v.keys v.keys[j] = (j : Nat) := by
    refine findI_at (by omega) rfl (fun q hq h => ?_)
    rw [List.getElem?_eq_getElem (by omega)] at h
    have h1 : v.keys[q] = v.keys[j] := by simpa using h
    have hlt : ∀ a b (ha : a < v.keys.length) (hb : b < v.keys.length), a < b → v.keys[a].toList < v.keys[b].toList := by
      intro a b ha hb hab
      induction b with
      | zero => omega
      | succ b ih =>
        have hs := (hko (b + 1) hb).2 (by omega)
        have h3 : v.keys[b].toList < v.keys[b + 1].toList := by
          have h4 : ¬ (v.keys[b + 1].toList < v.keys[b].toList) := by
            have := hs.1
            rw [pX] at this
            simpa using this
          have h5 : v.keys[b].toList ≠ v.keys[b + 1].toList := fun h => hs.2 (by
            have := vU (s := v.keys[b + 1]) (t := v.keys[b])
            rw [h] at this
            simpa using this.symm)
          rcases Nat.lt_trichotomy 0 1 with _ | _ | _
          · exact Classical.byContradiction fun hc => h5 (List.le_antisymm (List.not_lt.1 h4) (List.not_lt.1 hc))
          · omega
          · omega
        rcases Nat.lt_or_eq_of_le (Nat.le_of_lt_succ hab) with h6 | h6
        · exact List.lt_trans (ih (by omega) h6) h3
        · subst h6; exact h3
    have := hlt q j (by omega) (by omega) hq
    rw [h1] at this
    exact List.lt_irrefl _ this
  exact pT hf (by omega)
theorem unf_end {G : Gr} {back : Bool} {v : V} {f : Flds} {b : Nat} {cs : List Value} (hw : Wf v) (hk5 : v.kind = 5) (hko : KeysOk v.keys) (hr : RelAt G back v (prs back v).length f) (hg : (b, cs, f) ∈ G) : Unf G v b := by
  have hget : ∀ p ∈ prs back v, getV v p.1 = some p.2 := fun p hp => prs_get hw hk5 hko hp
  refine (tC G v b).2 ⟨f, ⟨cs, hg⟩, fun q h1 h2 => ?_⟩
  have := hr q h1 h2
  rw [List.take_length] at this
  cases hfq : f q with
  | none =>
    rw [hfq] at this
    intro key hkey
    cases hgv : getV v key with
    | none => rfl
    | some x =>
      exfalso
      have hmem : (key, x) ∈ prs back v := by
        refine (uO back v).mem_iff.2 ?_
        unfold getV at hgv
        rcases sS v.keys key with hn | ⟨j, hj, hlt⟩
        · rw [if_pos hn] at hgv; cases hgv
        · rw [hj, if_neg (by omega)] at hgv
          have hl := hw.eq hk5
          simp only [Int.toNat_natCast] at hgv
          have hx := (List.getElem?_eq_some_iff.1 hgv).2
          have hkj : v.keys[j] = key := by
            have h3 : findI v.keys key = (j : Nat) := hj
            unfold findI at h3
            split at h3
            · rename_i hlt3
              have h4 := List.findIdx_getElem (w := hlt3)
              have h5 : v.keys.findIdx (fun x => decide (x = key)) = j := by omega
              simp only [h5] at h4
              simpa using h4
            · omega
          rw [← hkj, ← hx]
          have : (v.keys.zip v.items)[j]'(by simp; omega) = (v.keys[j], v.items[j]'(by omega)) := List.getElem_zip
          rw [← this]
          exact List.getElem_mem _
      exact this _ hmem hkey
  | some fv =>
    rw [hfq] at this
    obtain ⟨p, h3, h4, h5⟩ := this
    exact ⟨p.1, p.2, h4, hget p h3, h5⟩
theorem cells0_flds (w : World) (ok : Nat → Prop) (mb : Nat) : CellsP w ok mb (.map (some mb) :: List.replicate 36 (.pointer none)) (fun _ => none) := by
 refine ⟨by simp, rfl, fun i h1 h2 => ⟨.pointer none, ?_, rfl⟩⟩
 obtain ⟨j, rfl⟩ : ∃ j, i = j + 1 := ⟨i - 1, by omega⟩
 rw [List.getElem?_cons_succ, List.getElem?_replicate, if_pos (by omega)]
theorem fv_ptr {w : World} {ok : Nat → Prop} {fv : FVal} {u : Value} (h : FvP w ok fv u) : ∃ p, u = .pointer (some p) := by
  cases fv with
  | text s => obtain ⟨p, a, _⟩ := h; exact ⟨p, a⟩
  | bool x => obtain ⟨p, a, _⟩ := h; exact ⟨p, a⟩
  | int n => obtain ⟨p, a, _⟩ := h; exact ⟨p, a⟩
  | numI n => obtain ⟨b, p, a, _⟩ := h; exact ⟨_, a⟩
  | numF n => obtain ⟨b, p, a, _⟩ := h; exact ⟨_, a⟩
  | sbS c => obtain ⟨b, a, _⟩ := h; exact ⟨_, a⟩
  | sbB x => obtain ⟨b, p, a, _⟩ := h; exact ⟨_, a⟩
  | itS c => obtain ⟨b, a, _⟩ := h; exact ⟨_, a⟩
  | itL bs => obtain ⟨b, p, sl, a, _⟩ := h; exact ⟨_, a⟩
  | texts l => obtain ⟨p, sl, a, _⟩ := h; exact ⟨_, a⟩
  | named l => obtain ⟨p, sl, nbs, a, _⟩ := h; exact ⟨_, a⟩
  | deps l => obtain ⟨p, sl, nbs, a, _⟩ := h; exact ⟨_, a⟩
  | enums l => obtain ⟨p, A, c, a, _⟩ := h; exact ⟨_, a⟩
  | tyS s => obtain ⟨b, p, a, _⟩ := h; exact ⟨_, a⟩
  | tyL l => obtain ⟨b, p, sl, a, _⟩ := h; exact ⟨_, a⟩
  | list bs => obtain ⟨p, sl, a, _⟩ := h; exact ⟨_, a⟩
  | one c => exact ⟨_, h⟩
  | any => exact h
theorem fld_cell {w : World} {ok : Nat → Prop} {mb : Nat} {cs : List Value} {f : Flds} (h : (DA.flds mb cs f).p w ok) (i : Nat) (h1 : 1 ≤ i) (h2 : i ≤ 36) : ∃ q, cs[i]? = some (.pointer q) ∧ q.isSome = (f i).isSome := by
  obtain ⟨u, hu, hm⟩ := h.2.2 i h1 h2
  cases hf : f i with
  | none => rw [hf] at hm; subst hm; exact ⟨none, hu, rfl⟩
  | some fv =>
    rw [hf] at hm
    obtain ⟨p, rfl⟩ := fv_ptr hm
    exact ⟨some p, hu, rfl⟩
theorem id_pts {w : World} {ok : Nat → Prop} {mb : Nat} {cs : List Value} {f : Flds} {s : ByteArray} {p : Addr} (h : (DA.flds mb cs f).p w ok) (hf : f 2 = some (.text s)) (hc : cs[2]? = some (.pointer (some p))) : PtsTo w ok p (.string s) := by
 obtain ⟨u, hu, hm⟩ := h.2.2 2 (by decide) (by decide)
 rw [hf] at hm
 rw [hc] at hu
 cases hu
 obtain ⟨p', he, _, h3⟩ := hm
 cases he
 exact h3
theorem text_of {U : Nat → V → Prop} {x : V} {fv : FVal} (h : FvRel U 1 x fv) : fv = .text x.text := by
 cases fv <;> simp_all [FvRel]
theorem nis_of {back : Bool} {v : V} (h : NoIdB v) : NIs (prs back v) := by
 intro p hp
 have hp' := (uO back v).mem_iff.1 hp
 obtain ⟨j, hj, he⟩ := List.getElem_of_mem hp'
 simp only [List.length_zip] at hj
 rw [List.getElem_zip] at he
 subst he
 exact h j _ _ (List.getElem?_eq_getElem (by omega)) (List.getElem?_eq_getElem (by omega))
theorem mem_prs {back : Bool} {v x : V} {key : ByteArray} (hw : Wf v) (hk5 : v.kind = 5) (hgv : getV v key = some x) : (key, x) ∈ prs back v := by
  refine (uO back v).mem_iff.2 ?_
  unfold getV at hgv
  rcases sS v.keys key with hn | ⟨j, hj, hlt⟩
  · rw [if_pos hn] at hgv; cases hgv
  · rw [hj, if_neg (by omega)] at hgv
    have hl := hw.eq hk5
    simp only [Int.toNat_natCast] at hgv
    have hx := (List.getElem?_eq_some_iff.1 hgv).2
    have hkj : v.keys[j] = key := by
      have h3 : findI v.keys key = (j : Nat) := hj
      unfold findI at h3
      split at h3
      · rename_i hlt3
        have h4 := List.findIdx_getElem (w := hlt3)
        have h5 : v.keys.findIdx (fun x => decide (x = key)) = j := by omega
        simp only [h5] at h4
        simpa using h4
      · omega
    rw [← hkj, ← hx]
    have : (v.keys.zip v.items)[j]'(by simp; omega) = (v.keys[j], v.items[j]'(by omega)) := List.getElem_zip
    rw [← this]
    exact List.getElem_mem _
theorem id_none {G : Gr} {back : Bool} {v : V} {f : Flds} (hw : Wf v) (hk5 : v.kind = 5) (hko : KeysOk v.keys) (hr : match f 2 with
    | none => ∀ p ∈ (prs back v).take (prs back v).length, kwIdx p.1 ≠ 2
    | some fv => ∃ p ∈ (prs back v).take (prs back v).length, kwIdx p.1 = 2 ∧ FvRel (fun b x => Unf G x b) (shIdx 2) p.2 fv) (hf : f 2 = none) : getV v kId = none := by
  rw [hf] at hr
  rw [List.take_length] at hr
  cases hg : getV v kId with
  | none => rfl
  | some x => exact absurd (show kwIdx kId = 2 by decide +kernel) (hr _ (mem_prs hw hk5 hg))
theorem kw2 {key : ByteArray} (h : kwIdx key = 2) : key = kId := by
 unfold kwIdx at h
 by_cases e1 : key = ⟨#[36, 115, 99, 104, 101, 109, 97]⟩
 ·rw [if_pos e1] at h; exact absurd h (by decide)
 rw [if_neg e1] at h
 by_cases e2 : key = ⟨#[105, 100]⟩
 ·exact e2
 rw [if_neg e2] at h
 by_cases e6 : key = ⟨#[109, 117, 108, 116, 105, 112, 108, 101, 79, 102]⟩
 ·rw [if_pos e6] at h; exact absurd h (by decide)
 rw [if_neg e6] at h
 by_cases e7 : key = ⟨#[109, 97, 120, 105, 109, 117, 109]⟩
 ·rw [if_pos e7] at h; exact absurd h (by decide)
 rw [if_neg e7] at h
 by_cases e8 : key = ⟨#[101, 120, 99, 108, 117, 115, 105, 118, 101, 77, 97, 120, 105, 109, 117, 109]⟩
 ·rw [if_pos e8] at h; exact absurd h (by decide)
 rw [if_neg e8] at h
 by_cases e9 : key = ⟨#[109, 105, 110, 105, 109, 117, 109]⟩
 ·rw [if_pos e9] at h; exact absurd h (by decide)
 rw [if_neg e9] at h
 by_cases e10 : key = ⟨#[101, 120, 99, 108, 117, 115, 105, 118, 101, 77, 105, 110, 105, 109, 117, 109]⟩
 ·rw [if_pos e10] at h; exact absurd h (by decide)
 rw [if_neg e10] at h
 by_cases e11 : key = ⟨#[109, 97, 120, 76, 101, 110, 103, 116, 104]⟩
 ·rw [if_pos e11] at h; exact absurd h (by decide)
 rw [if_neg e11] at h
 by_cases e12 : key = ⟨#[109, 105, 110, 76, 101, 110, 103, 116, 104]⟩
 ·rw [if_pos e12] at h; exact absurd h (by decide)
 rw [if_neg e12] at h
 by_cases e13 : key = ⟨#[112, 97, 116, 116, 101, 114, 110]⟩
 ·rw [if_pos e13] at h; exact absurd h (by decide)
 rw [if_neg e13] at h
 by_cases e14 : key = ⟨#[97, 100, 100, 105, 116, 105, 111, 110, 97, 108, 73, 116, 101, 109, 115]⟩
 ·rw [if_pos e14] at h; exact absurd h (by decide)
 rw [if_neg e14] at h
 by_cases e15 : key = ⟨#[105, 116, 101, 109, 115]⟩
 ·rw [if_pos e15] at h; exact absurd h (by decide)
 rw [if_neg e15] at h
 by_cases e16 : key = ⟨#[109, 97, 120, 73, 116, 101, 109, 115]⟩
 ·rw [if_pos e16] at h; exact absurd h (by decide)
 rw [if_neg e16] at h
 by_cases e17 : key = ⟨#[109, 105, 110, 73, 116, 101, 109, 115]⟩
 ·rw [if_pos e17] at h; exact absurd h (by decide)
 rw [if_neg e17] at h
 by_cases e18 : key = ⟨#[117, 110, 105, 113, 117, 101, 73, 116, 101, 109, 115]⟩
 ·rw [if_pos e18] at h; exact absurd h (by decide)
 rw [if_neg e18] at h
 by_cases e19 : key = ⟨#[109, 97, 120, 80, 114, 111, 112, 101, 114, 116, 105, 101, 115]⟩
 ·rw [if_pos e19] at h; exact absurd h (by decide)
 rw [if_neg e19] at h
 by_cases e20 : key = ⟨#[109, 105, 110, 80, 114, 111, 112, 101, 114, 116, 105, 101, 115]⟩
 ·rw [if_pos e20] at h; exact absurd h (by decide)
 rw [if_neg e20] at h
 by_cases e21 : key = ⟨#[114, 101, 113, 117, 105, 114, 101, 100]⟩
 ·rw [if_pos e21] at h; exact absurd h (by decide)
 rw [if_neg e21] at h
 by_cases e22 : key = ⟨#[97, 100, 100, 105, 116, 105, 111, 110, 97, 108, 80, 114, 111, 112, 101, 114, 116, 105, 101, 115]⟩
 ·rw [if_pos e22] at h; exact absurd h (by decide)
 rw [if_neg e22] at h
 by_cases e23 : key = ⟨#[112, 114, 111, 112, 101, 114, 116, 105, 101, 115]⟩
 ·rw [if_pos e23] at h; exact absurd h (by decide)
 rw [if_neg e23] at h
 by_cases e24 : key = ⟨#[112, 97, 116, 116, 101, 114, 110, 80, 114, 111, 112, 101, 114, 116, 105, 101, 115]⟩
 ·rw [if_pos e24] at h; exact absurd h (by decide)
 rw [if_neg e24] at h
 by_cases e25 : key = ⟨#[100, 101, 112, 101, 110, 100, 101, 110, 99, 105, 101, 115]⟩
 ·rw [if_pos e25] at h; exact absurd h (by decide)
 rw [if_neg e25] at h
 by_cases e26 : key = ⟨#[101, 110, 117, 109]⟩
 ·rw [if_pos e26] at h; exact absurd h (by decide)
 rw [if_neg e26] at h
 by_cases e27 : key = ⟨#[116, 121, 112, 101]⟩
 ·rw [if_pos e27] at h; exact absurd h (by decide)
 rw [if_neg e27] at h
 by_cases e28 : key = ⟨#[97, 108, 108, 79, 102]⟩
 ·rw [if_pos e28] at h; exact absurd h (by decide)
 rw [if_neg e28] at h
 by_cases e29 : key = ⟨#[97, 110, 121, 79, 102]⟩
 ·rw [if_pos e29] at h; exact absurd h (by decide)
 rw [if_neg e29] at h
 by_cases e30 : key = ⟨#[111, 110, 101, 79, 102]⟩
 ·rw [if_pos e30] at h; exact absurd h (by decide)
 rw [if_neg e30] at h
 by_cases e31 : key = ⟨#[110, 111, 116]⟩
 ·rw [if_pos e31] at h; exact absurd h (by decide)
 rw [if_neg e31] at h
 by_cases e32 : key = ⟨#[100, 101, 102, 105, 110, 105, 116, 105, 111, 110, 115]⟩
 ·rw [if_pos e32] at h; exact absurd h (by decide)
 rw [if_neg e32] at h
 by_cases e33 : key = ⟨#[116, 105, 116, 108, 101]⟩
 ·rw [if_pos e33] at h; exact absurd h (by decide)
 rw [if_neg e33] at h
 by_cases e34 : key = ⟨#[100, 101, 115, 99, 114, 105, 112, 116, 105, 111, 110]⟩
 ·rw [if_pos e34] at h; exact absurd h (by decide)
 rw [if_neg e34] at h
 by_cases e35 : key = ⟨#[100, 101, 102, 97, 117, 108, 116]⟩
 ·rw [if_pos e35] at h; exact absurd h (by decide)
 rw [if_neg e35] at h
 by_cases e36 : key = ⟨#[102, 111, 114, 109, 97, 116]⟩
 ·rw [if_pos e36] at h; exact absurd h (by decide)
 rw [if_neg e36] at h
 by_cases e3 : key = ⟨#[36, 114, 101, 102]⟩
 ·rw [if_pos e3] at h; exact absurd h (by decide)
 rw [if_neg e3] at h
 exact absurd h (by decide)
theorem in103 {back : Bool} {v : V} {mb i q ck ck1 ck2 : Nat} {cs : List Value} {f : Flds} {es es1 es2 : Array MapEntry} {G G' : Gr} {u : Value} {fv : FVal} (hlt : i < (prs back v).length) (hlen : cs.length = 37) (hcs : cs[0]? = some (.map (some mb))) (hr : RelAt G back v i f) (h0 : 1 ≤ q)
  (hkw : kwIdx (prs back v)[i].1 = q) (hF : FvRel (fun b x => Unf G' x b) (shIdx q) (prs back v)[i].2 fv) (hO : MapOk es2) (hno : NIs ((prs back v).take i) → es1 = es ∧ ck1 = ck) (hN : (∀ z ∈ kidsOf (shIdx q) (prs back v)[i].2, NoId z) → es2 = es1 ∧ ck2 = ck1) :
  i + 1 ≤ (prs back v).length ∧ (cs.set q u).length = 37 ∧ (cs.set q u)[0]? = some (.map (some mb)) ∧ RelAt (G' ++ G) back v (i + 1) (Flds.set f q fv) ∧ MapOk es2 ∧ (NIs ((prs back v).take (i + 1)) → es2 = es ∧ ck2 = ck) := by
 refine ⟨hlt, by rw [List.length_set]; exact hlen, by rw [List.getElem?_set_ne (by omega)]; exact hcs, hr.stepK (List.getElem?_eq_getElem hlt) hkw hF, hO, fun h => ?_⟩
 obtain ⟨h1, h2⟩ := sU hlt h
 obtain ⟨e1, e2⟩ := hno h1
 rw [kw_sh (by rw [hkw]; omega), hkw] at h2
 obtain ⟨e3, e4⟩ := hN h2
 exact ⟨e3.trans e1, e4.trans e2⟩

def Nm (q : Nat) : Prop := decide (1 ≤ q ∧ q ≤ 36 ∧ q ≠ 0 ∧ q ≠ 35) = true
theorem Nm.nmok {q : Nat} (h : Nm q) : 1 ≤ q ∧ q ≤ 36 ∧ q ≠ 0 ∧ q ≠ 35 := of_decide_eq_true h
theorem kwQ {q : Nat} {key k2 : ByteArray} (_ : Nm q) (h : key = k2) (e : kwIdx k2 = q) : kwIdx key = q := h ▸ e
theorem run_fsetq {P : Program} {n : Nat} {F : List Nat} {c : Ctx F} {k : List KI} {Q : Post} {e : Env} {M : List HA} {D : List DA} {q : Nat} (hq : Nm q) (i j : Nat) {mb : Nat} {cs : List Value} {f : Flds} {u : Value} {v : FVal} (hi : D[i]? = some (.flds mb cs f)) (hj : D[j]? = some (.fv u v)) (next : Run P n c k Q e M (.flds mb (cs.set q u) (f.set q v) :: D)) : Run P n c k Q e M D := run_fset i j q hi hj hq.nmok.1 next
theorem sW {D D2 : List DA} (h : ∀ d ∈ D2, d ∈ D := by intro d hd; first | exact subc 1 rfl (subc 0 rfl sQ) d hd | exact subc 0 rfl (subc 9 rfl sQ) d hd | (repeat (first | exact hd | apply List.mem_cons_of_mem))) : ∀ d ∈ D2, d ∈ D := h
theorem iB {q : Nat} {X A B : Prop} (hF : FieldOff Tryz.prog 124 q q) (si : X) (x : B) (hq : Nm q := by exact rfl) (h : FieldOff Tryz.prog 124 q q → X → Nm q → B → A := by
  intro hF si hq k
  refine rR 7 rfl ?_
  refine zM rfl (fun h => ?_) (fun h => rK 0 [55, 8, 6, 5, 0, 1] rfl rfl ?_)
  rotate_left
  · revert h
    exact k
  have hkw := kwQ hq h (by decide +kernel)
  have hB := HB _ hmem _ rfl (by rw [hkw]; decide)
  rw [hkw] at hB
  refine rO 8 rfl ?_
  refine tW 0 1 rfl rfl rfl (hB _ _ _ _ es1 ck1 hcs hok) rfl rfl (sub2 1 11 rfl rfl) (fun u M D hv => ?_)
  obtain ⟨p, fv, G1, es2, ck2, rfl, rfl, rfl, hF1, hO1, hN1⟩ := hv
  refine oO 3 rfl ?_
  refine zB hF rfl rfl ?_
  refine oO 1 rfl ?_
  refine tJ 0 rfl rfl rfl rfl rfl si (by omega) ?_
  refine oO 7 rfl ?_
  refine yP (s := ((2 * (i + 1) : Nat) : Int)) rfl rfl rfl (by omega) (by omega) (by omega) ?_
  refine oR 3 rfl ?_
  refine run_fsetq hq 8 0 rfl rfl ?_
  refine wR 2 10 rfl rfl ?_
  refine uA 1 2 rfl rfl ?_
  rw [tD]
  exact wC (hK (i + 1, cs.set _ (.pointer (some p)), Flds.set f _ fv, es2, ck2, G1 ++ G) (in103 hlt hlen hcs hr hq.nmok.1 hkw hF1 hO1 hno hN1) (by show (prs back v).length - (i + 1) < (prs back v).length - i; omega)) (eC rfl (eC rfl (eC rfl (eC rfl (eN _))))) (by repeat (first | exact wT _ | exact yB _ | refine zD 0 rfl ?_ | refine zD 1 rfl ?_ | refine zD 2 rfl ?_)) sW) : A := h hF si hq x

set_option maxHeartbeats 4000000 in
theorem c103w (ft : DA) (mb : Nat) (back : Bool) (v : V) (hw : Wf v) (hk5 : v.kind = 5) (hko : KeysOk v.keys) (HB : ∀ p ∈ prs back v, ∀ F, bldOf (kwIdx p.1) = F → F ≠ 0 → BC ft back F (shIdx (kwIdx p.1)) p.2) (HN : ∀ p ∈ prs back v, kwIdx p.1 = 31 → C103 ft mb back p.2)
  (nb : Nat) (es : Array MapEntry) (clock : Nat) (hes : MapOk es) : Ct Tryz.prog 103 #[ptr nb, .map (some mb)] [.obj mb (.map es clock)] [.node nb (nodeV back v), ft] (R103 mb es clock v) := by
 refine Ct.of_run (args := [ptr nb, .map (some mb)]) Tryz.func103 (by kernel_rfl) rfl Tryz.ntmps103 rfl (fun c => ?_)
 have hkl := hw.kl
 have hpl := prs_len back v
 rw [sE hk5]
 refine yZ 0 rfl (fun A0 cap0 ht0 hv0 hl0 hc0 => ?_)
 rw [rJ]
 rw [rJ] at hl0
 unfold maxLen at hc0
 refine rO 13 rfl (zB xO rfl rfl ?_)
 refine zA (zF 0 sc146 rfl rfl rfl rfl ?_)
 refine oO 23 rfl (yF rfl rfl (bu124_0 ..) ?_)
 refine zA (yJ rfl rfl rfl (fun b27 => ?_))
 refine oK 3 [5, 0, 1] rfl rfl (rK 7 [6, 5, 0, 1] rfl rfl ?_)
 refine zY (.graph mb []) (fun w ok h g hg => by cases hg) (zY (.flds mb (.map (some mb) :: List.replicate 36 (.pointer none)) (fun _ => none)) (fun w ok h => cells0_flds w ok mb) ?_)
 refine tK 124 (uZ (M' := HA.blk b27 (.map (some mb) :: List.replicate 36 (.pointer none)) 124 :: HA.many 124 [] :: HA.obj mb (.map es clock) :: []) (List.Perm.swap _ _ _) ?_)
 refine yS 1 (fun (⟨i, cs, f, es1, ck1, G⟩ : Nat × List Value × Flds × Array MapEntry × Nat × Gr) => i ≤ (prs back v).length ∧ cs.length = 37 ∧ cs[0]? = some (.map (some mb)) ∧ RelAt G back v i f ∧ MapOk es1 ∧ (NIs ((prs back v).take i) → es1 = es ∧ ck1 = clock)) (fun (⟨i, cs, f, es1, ck1, G⟩ : Nat × List Value × Flds × Array MapEntry × Nat × Gr) => [(6, .int .i64 ((2 * i : Nat) : Int))]) (fun (⟨i, cs, f, es1, ck1, G⟩ : Nat × List Value × Flds × Array MapEntry × Nat × Gr) => HA.blk b27 cs 124 :: HA.many 124 (Gr.blks G) :: HA.obj mb (.map es1 ck1) :: []) (fun (⟨i, cs, f, es1, ck1, G⟩ : Nat × List Value × Flds × Array MapEntry × Nat × Gr) => .flds mb cs f :: .graph mb G :: .dblk nb (ycells 4 tMap ⟨#[]⟩ A0 (2 * (prs back v).length) cap0) 150 :: .kids (.slice A0 (2 * (prs back v).length) cap0) (((prs back v).map (nodeP back)).flatMap prY) :: .node nb (.mk 4 tMap ⟨#[]⟩ (((prs back v).map (nodeP back)).flatMap prY)) :: ft :: []) (fun (⟨i, cs, f, es1, ck1, G⟩ : Nat × List Value × Flds × Array MapEntry × Nat × Gr) => (prs back v).length - i) (0, _, (fun _ => none), es, clock, []) (⟨Nat.zero_le _, rfl, rfl, RelAt.zero _ _ _, hes, fun _ => ⟨rfl, rfl⟩⟩) (eC rfl (eN _)) rfl rfl ?_ (eC rfl (eC rfl (eC rfl (eN _))))
 intro ⟨i, cs, f, es1, ck1, G⟩ hI K hK
 change Run _ _ _ _ _ [(6, _), (5, _), (0, _), (1, _)] [_, _, _] [_, _, _, _, _, _]
 obtain ⟨hi, hlen, hcs, hr, hok, hno⟩ := hI
 refine rO 10 rfl (zB xG rfl rfl ?_)
 refine zA (zF 2 sc148 rfl rfl rfl rfl ?_)
 refine zA (zZ sl148 rfl rfl ?_)
 refine zA (yT rfl rfl rfl ?_)
 refine yK (zM rfl (fun h34 => ?_) (fun h34 => ?_))
 ·refine rO 10 rfl (zB xG rfl rfl ?_)
  refine zA (zF 2 sc148 rfl rfl rfl rfl ?_)
  refine oO 3 rfl (xK (i := 2 * i) 3 sl148 rfl rfl rfl rfl (by omega) ?_)
  have hlt : i < (prs back v).length := by omega
  have hmem := List.getElem_mem hlt
  have hpi := List.getElem?_eq_getElem hlt
  refine wK 3 (2 * i) rfl (fm_get0 hlt) (fun b1 => ?_)
  refine vP 1 rfl (fun A1 cap1 ht1 hv1 hl1 hc1 => ?_)
  refine zA (yN sc102 rfl rfl (fun _ h => wL h (j := 2) rfl) ?_)
  refine oO 3 rfl (zB xR rfl rfl ?_)
  refine zA (zF 0 sc9 rfl rfl rfl rfl ?_)
  refine oK 3 [7, 6, 5, 0, 1] rfl rfl (rO 7 rfl ?_)
  refine zB xG rfl rfl (zA ?_)
  refine zF 6 sc148 rfl rfl rfl rfl (oO 3 rfl ?_)
  refine yL rfl rfl (by omega) (zA ?_)
  refine xK (i := 2 * i + 1) 7 sl148 rfl rfl rfl rfl (by omega) (wK 7 (2 * i + 1) rfl (fm_get1 hlt) (fun b2 => ?_))
  refine zA (yN sc102 rfl rfl (fun _ h => wL h (j := 0) rfl) ?_)
  refine oK 8 [55, 8, 6, 5, 0, 1] rfl rfl (run_block ?_)
  refine iB fo124_1 si111 ?_
  intro h56
  refine iB rB si111 ?_
  intro h64
  refine iB fo124_6 si113 ?_
  intro h72
  refine iB fo124_7 si113 ?_
  intro h80
  refine iB fo124_8 si112 ?_
  intro h88
  refine iB fo124_9 si113 ?_
  intro h96
  refine iB fo124_10 si112 ?_
  intro h104
  refine iB fo124_11 si114 ?_
  intro h112
  refine iB fo124_12 si114 ?_
  intro h120
  refine iB fo124_13 si111 ?_
  intro h128
  refine iB fo124_14 si115 ?_
  intro h136
  refine iB fo124_15 si116 ?_
  intro h144
  refine iB fo124_16 si114 ?_
  intro h152
  refine iB fo124_17 si114 ?_
  intro h160
  refine iB fo124_18 si112 ?_
  intro h168
  refine iB fo124_19 si114 ?_
  intro h176
  refine iB fo124_20 si114 ?_
  intro h184
  refine iB fo124_21 si117 ?_
  intro h192
  refine iB fo124_22 si115 ?_
  intro h200
  refine iB rT si118 ?_
  intro h208
  refine iB fo124_24 si118 ?_
  intro h216
  refine iB fo124_25 si119 ?_
  intro h224
  refine iB fo124_26 si120 ?_
  intro h232
  refine iB fo124_27 si121 ?_
  intro h240
  refine iB fo124_28 si122 ?_
  intro h248
  refine iB fo124_29 si122 ?_
  intro h256
  refine iB fo124_30 si122 ?_
  intro h264
  refine rR 7 rfl (zM rfl (fun h272 => ?_) (fun h272 => ?_))
  ·refine rO 10 rfl (zB rA rfl rfl ?_)
   refine zA (vM 0 sc104 rfl rfl rfl hcs ?_)
   refine zA ?_
   have hkw : kwIdx (prs back v)[i].1 = 31 := by rw [h272]; decide +kernel
   have hB := HN _ hmem hkw
   refine xF 2 rfl rfl rfl (hB _ es1 ck1 hok) rfl (sub2 1 11 rfl rfl) (fun u280 M280 D280 hv280 => ?_)
   obtain ⟨b280, G280, es280, ck280, rfl, rfl, rfl, hU280, hO280, hN280, hI280⟩ := hv280
   refine oO 3 rfl (zB fo124_31 rfl rfl ?_)
   refine zA (tJ 2 rfl rfl rfl rfl rfl si63 (by omega) ?_)
   refine oK 1 [6, 5, 0, 1] rfl rfl (rO 6 rfl ?_)
   refine yP (s := ((2 * (i + 1) : Nat) : Int)) rfl rfl rfl (by omega) (by omega) (by omega) (oR 3 rfl ?_)
   refine zY (.fv (ptr b280) (.one b280)) (fun w ok h => rfl) (run_fset 8 0 31 rfl rfl (by decide) ?_)
   refine wR 2 10 rfl rfl (uA 0 2 rfl rfl ?_)
   rw [tD]
   exact kQ (hK (i + 1, cs.set 31 (ptr b280), Flds.set f 31 (.one b280), es280, ck280, G280 ++ G) (⟨by show i + 1 ≤ _; omega, by show (cs.set 31 _).length = 37; rw [List.length_set]; exact hlen, by show (cs.set 31 _)[0]? = _; rw [List.getElem?_set_ne (by decide)]; exact hcs, hr.stepK hpi hkw ⟨rfl, hU280⟩, hO280, fun h => by obtain ⟨h1, h2⟩ := sU hlt h; obtain ⟨e1, e2⟩ := hno h1; rw [kw_sh (by rw [hkw]; decide), hkw] at h2; obtain ⟨e3, e4⟩ := hN280 (h2 _ (by show _ ∈ kidsOf 5 _; simp [kidsOf])); exact ⟨e3.trans e1, e4.trans e2⟩⟩) (dcr hlt)) (eC rfl (eC rfl (eC rfl (eC rfl (eN _))))) (hD := sW)
  refine iB fo124_32 si118 ?_
  intro h283
  refine iB fo124_33 si111 ?_
  intro h291
  refine iB fo124_34 si111 ?_
  intro h299
  refine rR 7 rfl (zM rfl (fun h307 => ?_) (fun h307 => ?_))
  ·refine rO 8 rfl (zB fo124_35 rfl rfl ?_)
   refine zA (tJ 0 rfl rfl rfl rfl rfl si102 (by omega) ?_)
   refine oK 1 [6, 5, 0, 1] rfl rfl (rO 6 rfl ?_)
   refine yP (s := ((2 * (i + 1) : Nat) : Int)) rfl rfl rfl (by omega) (by omega) (by omega) (oR 3 rfl ?_)
   refine zY (.fv (ptr b2) .any) (fun w ok h => ⟨_, rfl⟩) (run_fset 7 0 35 rfl rfl (by decide) ?_)
   exact kQ (hK (i + 1, cs.set 35 (ptr b2), Flds.set f 35 .any, es1, ck1, G) (⟨by show i + 1 ≤ _; omega, by show (cs.set 35 _).length = 37; rw [List.length_set]; exact hlen, by show (cs.set 35 _)[0]? = _; rw [List.getElem?_set_ne (by decide)]; exact hcs, hr.stepA hpi (by rw [h307]; decide +kernel) rfl, hok, fun h => hno (sU hlt h).1⟩) (dcr hlt)) (eC rfl (eC rfl (eC rfl (eC rfl (eN _))))) (hD := sW)
  refine iB fo124_36 si111 ?_
  intro h313
  refine iB fo124_3 si111 ?_
  intro h321
  refine rO 7 rfl (yP (s := ((2 * (i + 1) : Nat) : Int)) rfl rfl rfl (by omega) (by omega) (by omega) ?_)
  refine oR 3 rfl ?_
  exact kQ (hK (i + 1, cs, f, es1, ck1, G) (⟨by show i + 1 ≤ _; omega, hlen, hcs, hr.skip hpi (by unfold kwIdx; rw [if_neg h56, if_neg h64, if_neg h72, if_neg h80, if_neg h88, if_neg h96, if_neg h104, if_neg h112, if_neg h120, if_neg h128, if_neg h136, if_neg h144, if_neg h152, if_neg h160, if_neg h168, if_neg h176, if_neg h184, if_neg h192, if_neg h200, if_neg h208, if_neg h216, if_neg h224, if_neg h232, if_neg h240, if_neg h248, if_neg h256, if_neg h264, if_neg h272, if_neg h283, if_neg h291, if_neg h299, if_neg h307, if_neg h313, if_neg h321]), hok, fun h => hno (sU hlt h).1⟩) (dcr hlt)) (eC rfl (eC rfl (eC rfl (eC rfl (eN _))))) (hD := sW)
 obtain rfl : i = (prs back v).length := by omega
 rw [List.take_length] at hno
 have hUnf : Unf ([(b27, cs, f)] ++ G) v b27 := unf_end (cs := cs) hw hk5 hko (hr.mono fun g hg => List.mem_append_right _ hg) (List.mem_append_left _ (by simp))
 refine sN (p := ∃ q, cs[2]? = some (.pointer q) ∧ q.isSome = (f 2).isSome) (fun w ok h => fld_cell (dget h 0 rfl) 2 (by decide) (by decide)) (fun ⟨q2, hq2, hq2s⟩ => ?_)
 refine rO 9 rfl (zB rB rfl rfl ?_)
 refine zA (vM 0 sc111 rfl rfl rfl hq2 ?_)
 refine zA (xH pn111 rfl rfl ?_)
 refine oK 1 [333, 5, 1] rfl rfl (yQ rfl (fun h333 => ?_) (fun h333 => ?_))
 ·obtain ⟨p9, rfl⟩ : ∃ p9, q2 = some p9 := Option.isSome_iff_exists.1 h333
  obtain ⟨fv2, hf2⟩ : ∃ fv2, f 2 = some fv2 := Option.isSome_iff_exists.1 (hq2s.symm.trans h333)
  have hrel := hr 2 (by decide) (by decide)
  rw [hf2] at hrel
  obtain ⟨pp, hpp, hkpp, hfpp⟩ := hrel
  rw [List.take_length] at hpp
  obtain rfl := text_of hfpp
  have hgid : getV v kId = some pp.2 := by rw [← kw2 hkpp]; exact prs_get hw hk5 hko hpp
  refine zY (.pts p9 (.string pp.2.text)) (fun w ok h => id_pts (dget h 0 rfl) hf2 hq2) (rO 6 rfl ?_)
  refine op_eqlNilM mp104 rfl rfl (oO 11 rfl ?_)
  refine zB rB rfl rfl (zA ?_)
  refine vM 0 sc111 rfl rfl rfl hq2 (oO 3 rfl ?_)
  refine xC 0 sc9 rfl rfl rfl (oO 3 rfl ?_)
  refine op_mapUpd 2 mp104 st9 rfl rfl rfl rfl hok (fun es9 ck9 hok9 hemp => ?_)
  refine oK 1 [5] rfl rfl (rR 7 rfl ?_)
  refine run_toMany 0 rfl (uA 0 0 rfl rfl ?_)
  refine run_graph1 (b := b27) 1 rfl (wR 0 3 rfl rfl ?_)
  exact zC Tryz.results103 rfl ⟨b27, [(b27, cs, f)] ++ G, es9, ck9, rfl, rfl, rfl, hUnf, hok9, (fun h => by rw [((noId_iff v).1 h).1] at hgid; cases hgid), (fun idv hid hb he => by rw [hgid] at hid; cases hid; obtain ⟨e1, e2⟩ := hno (nis_of hb); subst e1; subst e2; exact hemp he)⟩ (List.Sublist.refl _) (sub1 0 rfl)
 refine rR 8 rfl (run_toMany 0 rfl ?_)
 refine uA 0 0 rfl rfl (run_graph1 (b := b27) 0 rfl ?_)
 refine wR 0 2 rfl rfl ?_
 have hn2 : f 2 = none := Option.not_isSome_iff_eq_none.1 (by rw [← hq2s, h333]; exact Bool.false_ne_true)
 have hgid : getV v kId = none := by obtain ⟨f9, ⟨cs9, hm9⟩, hrel⟩ := (tC _ v b27).1 hUnf; exact id_none hw hk5 hko (hr 2 (by decide) (by decide)) hn2
 exact zC Tryz.results103 rfl ⟨b27, [(b27, cs, f)] ++ G, es1, ck1, rfl, rfl, rfl, hUnf, hok, (fun h => hno (nis_of ((noId_iff v).1 h).2)), (fun idv hid => by rw [hgid] at hid; cases hid)⟩ (List.Sublist.refl _) (sub1 0 rfl)
end Go.Jw

namespace Go.Jw
open Go Go.RowKit Go.Proofs
set_option maxRecDepth 8000
def NumC (ft : DA) : Prop := (∀ back x, x.kind = 2 ∨ (x.kind = 6 ∧ x.num.tmod 4 ≠ 0) → NumOk x → BC ft back 135 3 x) ∧ ∀ back x, x.kind = 2 → NumOk x → BC ft back 137 4 x
noncomputable def NoNum : V → Prop := V.fix (fun v f => ∀ (j : Nat) k u, v.keys[j]? = some k → v.items[j]? = some u → shapeOf k ≠ 3 ∧ shapeOf k ≠ 4 ∧ ∀ z ∈ kidsOf (shapeOf k) u, f z)
theorem sH (v : V) : NoNum v ↔ ∀ (j : Nat) k u, v.keys[j]? = some k → v.items[j]? = some u → shapeOf k ≠ 3 ∧ shapeOf k ≠ 4 ∧ ∀ z ∈ kidsOf (shapeOf k) u, NoNum z := by
 have := V.fix_eq (G := fun v f => ∀ (j : Nat) k u, v.keys[j]? = some k → v.items[j]? = some u → shapeOf k ≠ 3 ∧ shapeOf k ≠ 4 ∧ ∀ z ∈ kidsOf (shapeOf k) u, f z) (fun t g g' h => by
  have : ∀ (j : Nat) k u, t.items[j]? = some u → ((∀ z ∈ kidsOf (shapeOf k) u, g z) ↔ ∀ z ∈ kidsOf (shapeOf k) u, g' z) := by
   intro j k u hu
   have hs : ∀ z ∈ kidsOf (shapeOf k) u, SizeOf.sizeOf z < SizeOf.sizeOf t := fun z hz => Nat.lt_of_le_of_lt (uH hz) (pD hu)
   exact ⟨fun a z hz => by rw [← h z (hs z hz)]; exact a z hz, fun a z hz => by rw [h z (hs z hz)]; exact a z hz⟩
  apply propext
  constructor
  ·intro h2 j k u hk hu; exact ⟨(h2 j k u hk hu).1, (h2 j k u hk hu).2.1, (this j k u hu).1 (h2 j k u hk hu).2.2⟩
  ·intro h2 j k u hk hu; exact ⟨(h2 j k u hk hu).1, (h2 j k u hk hu).2.1, (this j k u hu).2 (h2 j k u hk hu).2.2⟩) v
 show V.fix _ v ↔ _
 rw [this]
 rfl
theorem pJ {back : Bool} {v : V} {p : ByteArray × V} (hp : p ∈ prs back v) : ∃ j : Nat, v.keys[j]? = some p.1 ∧ v.items[j]? = some p.2 := by
 have hp' := (uO back v).mem_iff.1 hp
 obtain ⟨j, hj, he⟩ := List.getElem_of_mem hp'
 simp only [List.length_zip] at hj
 rw [List.getElem_zip] at he
 subst he
 exact ⟨j, List.getElem?_eq_getElem (by omega), List.getElem?_eq_getElem (by omega)⟩
theorem Pl.frac {v : V} (h : Pl v) (hk : v.kind = 6) : v.num.tmod 4 ≠ 0 := by
 obtain ⟨d, h⟩ := h
 obtain ⟨q, m, s, ks, ts⟩ := v
 simp only [V.kind] at hk
 subst hk
 have := (yV (by decide) (by decide)).1 h
 simp only [IsScal] at this
 simp only [V.num]
 omega
theorem hb_of {ft : DA} {back : Bool} {v : V} (hN : NumC ft ∨ NoNum v) (hp : Pl v) (hs : IsShape v) (sub : ∀ p ∈ prs back v, ∀ z ∈ kidsOf (shapeOf p.1) p.2, Pl z → ∀ mb, C103 ft mb back z) : ∀ p ∈ prs back v, ∀ F, bldOf (kwIdx p.1) = F → F ≠ 0 → BC ft back F (shIdx (kwIdx p.1)) p.2 := by
  intro p hpm F hF h0
  have hfit := ((xT v).1 hs).2
  obtain ⟨j, hj1, hj2⟩ := pJ hpm
  have hx : p.2 ∈ v.items := List.mem_of_getElem? hj2
  have hpl := hp.item _ hx
  have hne : kwIdx p.1 ≠ 0 := by intro h; rw [h] at hF; exact h0 hF.symm
  have hsh := kw_sh hne
  have hf := (hfit j _ _ hj1 hj2).1
  have hsub := sub p hpm
  have hnn : NumC ft ∨ (shapeOf p.1 ≠ 3 ∧ shapeOf p.1 ≠ 4) := hN.imp id fun h => ⟨((sH v).1 h j _ _ hj1 hj2).1, ((sH v).1 h j _ _ hj1 hj2).2.1⟩
  rw [hsh] at hf hsub hnn
  have hw := hpl.wf
  subst hF
  generalize hq : kwIdx p.1 = q at *
  have key : ∀ (F : FuncId) (sh : Int), bldOf q = F → shIdx q = sh → ((F = 134 ∧ sh = 1) ∨ (F = 136 ∧ sh = 2) ∨ (F = 135 ∧ sh = 3) ∨ (F = 137 ∧ sh = 4) ∨ (F = 138 ∧ sh = 6) ∨ (F = 139 ∧ sh = 7) ∨ (F = 140 ∧ sh = 8) ∨ (F = 141 ∧ sh = 9) ∨ (F = 142 ∧ sh = 10) ∨ (F = 143 ∧ sh = 11) ∨ (F = 144 ∧ sh = 12) ∨ (F = 145 ∧ sh = 13)) := by
    intro F sh hF hS
    subst hF; subst hS
    unfold bldOf at h0 ⊢
    unfold shIdx
    split at h0 <;> simp_all
  have hK := key _ _ rfl rfl
  generalize bldOf q = F at *
  generalize shIdx q = sh at *
  have hil : ∀ y ∈ p.2.items, y.items.length ≤ 1000000 := fun y hy => (hw.item y hy).il
  rcases hK with ⟨rfl, rfl⟩ | ⟨rfl, rfl⟩ | ⟨rfl, rfl⟩ | ⟨rfl, rfl⟩ | ⟨rfl, rfl⟩ | ⟨rfl, rfl⟩ | ⟨rfl, rfl⟩ | ⟨rfl, rfl⟩ | ⟨rfl, rfl⟩ | ⟨rfl, rfl⟩ | ⟨rfl, rfl⟩ | ⟨rfl, rfl⟩
  · exact bc1 (by simpa [FitLoc] using hf)
  · exact bc2 (by simpa [FitLoc] using hf)
  · rcases hnn with h | h
    · have hf' : p.2.kind = 2 ∨ p.2.kind = 6 := by simpa [FitLoc] using hf
      exact h.1 back _ (hf'.imp id fun h6 => ⟨h6, hpl.frac h6⟩) hpl.num
    · exact absurd rfl h.1
  · rcases hnn with h | h
    · have hf' : p.2.kind = 2 ∧ 0 ≤ p.2.num := by simpa [FitLoc] using hf
      exact h.2 back _ hf'.1 hpl.num
    · exact absurd rfl h.2
  · have hf' : p.2.kind = 1 ∨ p.2.kind = 5 := by simpa [FitLoc] using hf
    rcases hf' with h | h
    · exact bc6b h
    · exact bc6s h (hsub _ (by rw [kids6 h]; simp) hpl)
  · have hf' : p.2.kind = 5 ∨ (p.2.kind = 4 ∧ ∀ x ∈ p.2.items, x.kind = 5) := by simpa [FitLoc] using hf
    rcases hf' with h | ⟨h, h5⟩
    · exact bc7s h (hsub _ (by rw [kids7 h]; simp) hpl)
    · exact bc7l h hw.il h5 (fun y hy => hsub y (by rw [kids7l h h5]; exact hy) (hpl.item y hy))
  · have hf' : p.2.kind = 4 ∧ ∀ x ∈ p.2.items, x.kind = 3 := by simpa [FitLoc] using hf
    exact bc8 hf'.1 hw.il hf'.2
  · have hf' : p.2.kind = 5 ∧ ∀ x ∈ p.2.items, x.kind = 5 := by simpa [FitLoc] using hf
    exact bc9 hf'.1 hw.kl hf'.2 (fun y hy => hsub y (by rw [kids9 hf'.2]; exact hy) (hpl.item y hy))
  · have hf' : p.2.kind = 5 ∧ ∀ x ∈ p.2.items, x.kind = 4 ∧ ∀ y ∈ x.items, y.kind = 3 := by simpa [FitLoc] using hf
    exact bc10 hf'.1 hw.kl (fun y hy => ⟨(hf'.2 y hy).1, hil y hy, (hf'.2 y hy).2⟩)
  · have hf' : p.2.kind = 4 ∧ ∀ x ∈ p.2.items, x.kind = 3 ∨ x.kind = 1 := by simpa [FitLoc] using hf
    exact bc11 hf'.1 hw.il hf'.2
  · have hf' : p.2.kind = 3 ∨ (p.2.kind = 4 ∧ ∀ x ∈ p.2.items, x.kind = 3) := by simpa [FitLoc] using hf
    rcases hf' with h | ⟨h, h3⟩
    · exact bc12s h
    · exact bc12l h hw.il h3
  · have hf' : p.2.kind = 4 ∧ ∀ x ∈ p.2.items, x.kind = 5 := by simpa [FitLoc] using hf
    exact bc13 hf'.1 hw.il hf'.2 (fun y hy => hsub y (by rw [kids13 hf'.2]; exact hy) (hpl.item y hy))
theorem hn_of {ft : DA} {back : Bool} {v : V} (hp : Pl v) (sub : ∀ p ∈ prs back v, ∀ z ∈ kidsOf (shapeOf p.1) p.2, Pl z → ∀ mb, C103 ft mb back z) (mb : Nat) : ∀ p ∈ prs back v, kwIdx p.1 = 31 → C103 ft mb back p.2 := by
 intro p hpm hkw
 have hsh := kw_sh (key := p.1) (by rw [hkw]; decide)
 rw [hkw] at hsh
 obtain ⟨j, hj1, hj2⟩ := pJ hpm
 exact sub p hpm p.2 (by rw [hsh]; simp [kidsOf, shIdx]) (hp.item _ (List.mem_of_getElem? hj2)) mb
theorem c103 (ft : DA) (back : Bool) (v : V) : (NumC ft ∨ NoNum v) → Pl v → IsShape v → ∀ mb, C103 ft mb back v := by
 refine V.indS (p := fun v => (NumC ft ∨ NoNum v) → Pl v → IsShape v → ∀ mb, C103 ft mb back v) (fun v IH hN hp hs mb => ?_) v
 have hk5 := hs.kind
 have hfit := ((xT v).1 hs).2
 have sub : ∀ p ∈ prs back v, ∀ z ∈ kidsOf (shapeOf p.1) p.2, Pl z → ∀ mb, C103 ft mb back z := by
  intro p hpm z hz hpz
  obtain ⟨j, hj1, hj2⟩ := pJ hpm
  refine IH z (Nat.lt_of_le_of_lt (uH hz) (pD hj2)) ?_ hpz ((hfit j _ _ hj1 hj2).2.1 z hz)
  exact hN.imp id fun h => ((sH v).1 h j _ _ hj1 hj2).2.2 z hz
 exact c103w ft mb back v hp.wf hk5 (hp.keys hk5) (hb_of hN hp hs sub) (hn_of hp sub mb)
def R57 (v : V) (u : Value) (M' : List HA) (D' : List DA) : Prop := ∃ b G mb es ck, u = ptr b ∧ M' = [.many 124 (Gr.blks G), .obj mb (.map es ck)] ∧ D' = [.graph mb G] ∧ Unf G v b ∧ MapOk es ∧ (∀ idv, getV v kId = some idv → NoIdB v → es = #[{ key := .string idv.text, val := ptr b, born := 0 }])
theorem c57 (ft : DA) (back : Bool) (v : V) (x : Value) (hN : NumC ft ∨ NoNum v) (hp : Pl v) (hs : IsShape v) : Ct Tryz.prog 57 #[x, .bool back] [] [.val x v, .tab, ft] (R57 v) := by
 refine Ct.of_run (args := [x, .bool back]) Tryz.func57 (by kernel_rfl) rfl Tryz.ntmps57 rfl (fun c => ?_)
 refine xE 0 rfl (fun A1 c1 A2 c2 hx hsz hk1 hk2 hi1 hi2 => ?_)
 subst hx
 refine rO 3 rfl (yJ rfl rfl rfl (fun b2 => ?_))
 refine oO 6 rfl (zW 0 rfl ag25 rfl rfl ?_)
 refine oO 3 rfl (zR rfl rfl rfl (c104 v hp.wf hp.num back _) (sub2 2 3 rfl rfl) (fun u7 D7 hv7 => ?_))
 obtain ⟨b7, rfl, rfl⟩ := hv7
 refine zA (op_makeMap rfl (fun b8 => ?_))
 refine zA (xF 0 rfl rfl rfl (c103 ft back v hN hp hs b8 _ #[] 0 MapOk.empty) rfl (sub2 0 5 rfl rfl) (fun u9 M9 D9 hv9 => ?_))
 obtain ⟨b9, G9, es9, ck9, rfl, rfl, rfl, hU9, hO9, hN9, hI9⟩ := hv9
 refine oR 3 rfl ?_
 exact zC Tryz.results57 rfl ⟨b9, G9, b8, es9, ck9, rfl, rfl, rfl, hU9, hO9, fun idv h1 h2 => hI9 idv h1 h2 rfl⟩ (by repeat (first | exact List.Sublist.refl _ | apply List.Sublist.cons_cons | exact List.nil_sublist _)) (sub1 0 rfl)
abbrev Hd := Option Nat × Option Addr × Nat × List Nat
abbrev hdI (h : Hd) : HA := .many 110 (h.1.toList.map fun b => (b, [.slice h.2.1 h.2.2.2.length h.2.2.1]))
abbrev hdR (h : Hd) : HA := .row h.2.1 h.2.2.2.length h.2.2.1 125 1 (h.2.2.2.map ptr)
def HdP (w : World) (ok : Nat → Prop) (o : Value) (x : Option FVal) (h : Hd) : Prop := match h.1 with
  | none => x = none ∧ o = .pointer none
  | some hb => o = ptr hb ∧ ∃ l, x = some (.named l) ∧ NamP w ok h.2.2.2 l
theorem HdP.mono {w w' : World} {ok ok' : Nat → Prop} (h1 : ∀ k, ok k → ok' k) (h2 : ∀ k, ok k → w'.heap[k]? = w.heap[k]?) {o : Value} {x : Option FVal} {h : Hd} (hh : HdP w ok o x h) : HdP w' ok' o x h := by
  obtain ⟨b, A, ca, nbs⟩ := h
  cases b with
  | none => exact hh
  | some b =>
    obtain ⟨e1, l, e2, e3⟩ := hh
    exact ⟨e1, l, e2, (DA.nam nbs l).mono h1 h2 e3⟩
def FcP (w : World) (ok : Nat → Prop) (h : Hd) (i : Nat) (u : Value) (x : Option FVal) : Prop := (i = 23 → HdP w ok u x h) ∧ (i ≠ 23 → match x with
  | none => u = .pointer none
  | some v => FvP w ok v u)
def CellsH (w : World) (ok : Nat → Prop) (mb : Nat) (cs : List Value) (f : Flds) (h : Hd) : Prop := cs.length = 37 ∧ cs[0]? = some (.map (some mb)) ∧ ∀ i, 1 ≤ i → i ≤ 36 → ∃ u, cs[i]? = some u ∧ FcP w ok h i u (f i)
theorem CellsH.mono {w w' : World} {ok ok' : Nat → Prop} (h1 : ∀ k, ok k → ok' k) (h2 : ∀ k, ok k → w'.heap[k]? = w.heap[k]?) {mb : Nat} {cs : List Value} {f : Flds} {hd : Hd} (h : CellsH w ok mb cs f hd) : CellsH w' ok' mb cs f hd := by
  refine ⟨h.1, h.2.1, fun i hi hj => ?_⟩
  obtain ⟨u, hu, hm⟩ := h.2.2 i hi hj
  refine ⟨u, hu, fun e => (hm.1 e).mono h1 h2, fun e => ?_⟩
  have := hm.2 e
  cases hf : f i with
  | none => rw [hf] at this; exact this
  | some v => rw [hf] at this; exact FvP.mono h1 h2 this
def DA.fldsH (mb : Nat) (cs : List Value) (f : Flds) (h : Hd) : DA := ⟨fun w ok => CellsH w ok mb cs f h, fun h1 h2 h => CellsH.mono h1 h2 h⟩
theorem cells0H (w : World) (ok : Nat → Prop) (mb : Nat) : CellsH w ok mb (.map (some mb) :: List.replicate 36 (.pointer none)) (fun _ => none) (none, none, 0, []) := by
 refine ⟨by simp, rfl, fun i h1 h2 => ⟨.pointer none, ?_, fun _ => ⟨rfl, rfl⟩, fun _ => rfl⟩⟩
 obtain ⟨j, rfl⟩ : ∃ j, i = j + 1 := ⟨i - 1, by omega⟩
 rw [List.getElem?_cons_succ, List.getElem?_replicate, if_pos (by omega)]
theorem fld_cellH {w : World} {ok : Nat → Prop} {mb : Nat} {cs : List Value} {f : Flds} {hd : Hd} (h : (DA.fldsH mb cs f hd).p w ok) (i : Nat) (h1 : 1 ≤ i) (h2 : i ≤ 36) (h3 : i ≠ 23) : ∃ q, cs[i]? = some (.pointer q) ∧ q.isSome = (f i).isSome := by
  obtain ⟨u, hu, _, hm⟩ := h.2.2 i h1 h2
  have hm := hm h3
  cases hf : f i with
  | none => rw [hf] at hm; subst hm; exact ⟨none, hu, rfl⟩
  | some fv =>
    rw [hf] at hm
    obtain ⟨p, rfl⟩ := fv_ptr hm
    exact ⟨some p, hu, rfl⟩
theorem id_ptsH {w : World} {ok : Nat → Prop} {mb : Nat} {cs : List Value} {f : Flds} {hd : Hd} {s : ByteArray} {p : Addr} (h : (DA.fldsH mb cs f hd).p w ok) (hf : f 2 = some (.text s)) (hc : cs[2]? = some (.pointer (some p))) : PtsTo w ok p (.string s) := by
 obtain ⟨u, hu, _, hm⟩ := h.2.2 2 (by decide) (by decide)
 have hm := hm (by decide)
 rw [hf] at hm
 rw [hc] at hu
 cases hu
 obtain ⟨p', he, _, h3⟩ := hm
 cases he
 exact h3
def NmA (q : Nat) : Prop := decide (1 ≤ q ∧ q ≤ 36 ∧ q ≠ 23) = true
section rules
variable {P : Program} {n : Nat} {F : List Nat} {c : Ctx F} {k : List KI} {Q : Post} {e : Env} {M : List HA} {D : List DA}
theorem run_fsetA {q : Nat} (hq : NmA q) (i j : Nat) {mb : Nat} {cs : List Value} {f : Flds} {hd : Hd} {u : Value} {v : FVal} (hi : D[i]? = some (.fldsH mb cs f hd)) (hj : D[j]? = some (.fv u v)) (next : Run P n c k Q e M (.fldsH mb (cs.set q u) (f.set q v) hd :: D)) : Run P n c k Q e M D :=
 zY (.fldsH mb (cs.set q u) (f.set q v) hd) (fun w ok h => by
  have h0 : 1 ≤ q ∧ q ≤ 36 ∧ q ≠ 23 := of_decide_eq_true hq
  have h1 : CellsH w ok mb cs f hd := dget h i hi
  have h2 : FvP w ok v u := dget h j hj
  refine ⟨by rw [List.length_set]; exact h1.1, by rw [List.getElem?_set_ne (by omega)]; exact h1.2.1, fun x hx hx2 => ?_⟩
  by_cases hxq : x = q
  ·subst hxq
   exact ⟨u, by rw [List.getElem?_set_self (by rw [h1.1]; omega)], fun e => absurd e h0.2.2, fun _ => by simp only [Flds.set, if_true]; exact h2⟩
  ·obtain ⟨u', hu', hm⟩ := h1.2.2 x hx hx2
   refine ⟨u', by rw [List.getElem?_set_ne (Ne.symm hxq)]; exact hu', ?_⟩
   simp only [Flds.set, if_neg hxq]
   exact hm) next
theorem run_fsetN (i j : Nat) (hb : Nat) (A : Option Addr) (ca : Nat) {nbs : List Nat} {l : List (ByteArray × Nat)} {mb : Nat} {cs : List Value} {f : Flds} {hd : Hd} (hi : D[i]? = some (.fldsH mb cs f hd)) (hj : D[j]? = some (.nam nbs l)) (next : Run P n c k Q e M (.fldsH mb (cs.set 23 (ptr hb)) (f.set 23 (.named l)) (some hb, A, ca, nbs) :: D)) : Run P n c k Q e M D :=
 zY (.fldsH mb (cs.set 23 (ptr hb)) (f.set 23 (.named l)) (some hb, A, ca, nbs)) (fun w ok h => by
  have h1 : CellsH w ok mb cs f hd := dget h i hi
  have h2 : NamP w ok nbs l := dget h j hj
  refine ⟨by rw [List.length_set]; exact h1.1, by rw [List.getElem?_set_ne (by omega)]; exact h1.2.1, fun x hx hx2 => ?_⟩
  by_cases hxq : x = 23
  ·subst hxq
   exact ⟨ptr hb, by rw [List.getElem?_set_self (by rw [h1.1]; omega)], fun _ => ⟨rfl, l, rfl, h2⟩, fun e => absurd rfl e⟩
  ·obtain ⟨u', hu', hm⟩ := h1.2.2 x hx hx2
   refine ⟨u', by rw [List.getElem?_set_ne (Ne.symm hxq)]; exact hu', fun e => absurd e hxq, ?_⟩
   simp only [Flds.set, if_neg hxq]
   exact hm.2) next
end rules
def RA (mb : Nat) (es : Array MapEntry) (clock sb : Nat) (cs : List Value) (x : V) (u : Value) (M' : List HA) (D' : List DA) : Prop :=
 ∃ hb A ca nbs G es' clock' l, u = ptr hb ∧ M' = [.blk sb cs 124, .many 124 (Gr.blks G), .obj mb (.map es' clock'), .blk hb [.slice A nbs.length ca] 110, .row A nbs.length ca 125 1 (nbs.map ptr)] ∧ D' = [.nam nbs l, .graph mb G] ∧ FvRel (fun b z => Unf G z b) 9 x (.named l) ∧ MapOk es' ∧ ((∀ z ∈ kidsOf 9 x, NoId z) → es' = es ∧ clock' = clock)
def R103A (mb : Nat) (v : V) (u : Value) (M' : List HA) (D' : List DA) : Prop :=
 ∃ b cs G es ck f h, u = ptr b ∧ M' = [.blk b cs 124, .many 124 (Gr.blks G), .obj mb (.map es ck), hdI h, hdR h] ∧ D' = [.fldsH mb cs f h, .graph mb G] ∧ Unf ((b, cs, f) :: G) v b
theorem c141A (ft : DA) (sb nb mb : Nat) (cs : List Value) (back : Bool) (ps : List (ByteArray × V)) (hl : ps.length ≤ 1000000) (hcs : cs[0]? = some (.map (some mb))) (H : ∀ p ∈ ps, C103 ft mb back p.2) (es : Array MapEntry) (clock : Nat) (hes : MapOk es) :
  Ct Tryz.prog 141 #[ptr sb, ptr nb] [.blk sb cs 124, .obj mb (.map es clock)] [.node nb (.mk 4 tMap ⟨#[]⟩ ((ps.map (nodeP back)).flatMap prY)), ft] (fun u M' D' => ∃ hb A ca nbs G es' clock' l, u = ptr hb ∧ M' = [.blk sb cs 124, .many 124 (Gr.blks G), .obj mb (.map es' clock'), .blk hb [.slice A nbs.length ca] 110, .row A nbs.length ca 125 1 (nbs.map ptr)] ∧ D' = [.nam nbs l, .graph mb G] ∧ All2 (URel G) l ps ∧ MapOk es' ∧ ((∀ p ∈ ps, NoId p.2) → es' = es ∧ clock' = clock)) := by
 refine Ct.of_run (args := [ptr sb, ptr nb]) Tryz.func141 (by kernel_rfl) rfl Tryz.ntmps141 rfl (fun c => ?_)
 refine yZ 0 rfl (fun A0 cap0 ht0 hv0 hl0 hc0 => ?_)
 rw [rJ]
 rw [rJ] at hl0
 unfold maxLen at hc0
 refine rO 13 rfl (zB xO rfl rfl ?_)
 refine zA (zF 0 sc146 rfl rfl rfl rfl ?_)
 refine oO 13 rfl (xD sl110 rfl rfl rfl (fun b16 => ?_))
 refine zA (zT ze110 rfl (fun b5 => ?_))
 change RunOps _ _ _ _ _ _ _ _ (HA.blk _ [_] _ :: _) _
 refine zA (zG 0 (M' := [HA.blk _ [_] _, _, _, _]) rfl rfl rfl rfl si110 rfl rfl rfl ?_)
 refine oK 8 [6, 5, 0, 1] rfl rfl (zY (.graph mb []) (fun w ok h g hg => by cases hg) ?_)
 refine zY (.nam [] []) (fun w ok h => ⟨rfl, fun i q nb a => by simp at a⟩) (tK 124 ?_)
 refine uZ (M' := HA.blk b5 [.slice (some ⟨b16, 0, none⟩) 0 0] 110 :: HA.row (some ⟨b16, 0, none⟩) 0 0 125 1 [] :: HA.many 124 [] :: HA.obj mb (.map es clock) :: HA.blk sb cs 124 :: []) ?_ ?_
 ·exact ((List.Perm.swap _ _ _).trans (.cons _ (List.Perm.swap _ _ _))).trans (.cons _ (.cons _ (.cons _ (List.Perm.swap _ _ _))))
 refine yS 1 (fun (⟨i, A, ca, nbs, es1, ck1, G, l⟩ : Nat × Option Addr × Nat × List Nat × Array MapEntry × Nat × Gr × List (ByteArray × Nat)) => i ≤ ps.length ∧ All2 (URel G) l (ps.take i) ∧ MapOk es1 ∧ ((∀ p ∈ ps.take i, NoId p.2) → es1 = es ∧ ck1 = clock)) (fun (⟨i, A, ca, nbs, es1, ck1, G, l⟩ : Nat × Option Addr × Nat × List Nat × Array MapEntry × Nat × Gr × List (ByteArray × Nat)) => [(6, .int .i64 ((2 * i : Nat) : Int))]) (fun (⟨i, A, ca, nbs, es1, ck1, G, l⟩ : Nat × Option Addr × Nat × List Nat × Array MapEntry × Nat × Gr × List (ByteArray × Nat)) => HA.blk b5 [.slice A i ca] 110 :: HA.row A i ca 125 1 (nbs.map ptr) :: HA.many 124 (Gr.blks G) :: HA.obj mb (.map es1 ck1) :: HA.blk sb cs 124 :: []) (fun (⟨i, A, ca, nbs, es1, ck1, G, l⟩ : Nat × Option Addr × Nat × List Nat × Array MapEntry × Nat × Gr × List (ByteArray × Nat)) => .nam nbs l :: .graph mb G :: .dblk nb (ycells 4 tMap ⟨#[]⟩ A0 (2 * ps.length) cap0) 150 :: .kids (.slice A0 (2 * ps.length) cap0) ((ps.map (nodeP back)).flatMap prY) :: .node nb (.mk 4 tMap ⟨#[]⟩ ((ps.map (nodeP back)).flatMap prY)) :: ft :: []) (fun (⟨i, A, ca, nbs, es1, ck1, G, l⟩ : Nat × Option Addr × Nat × List Nat × Array MapEntry × Nat × Gr × List (ByteArray × Nat)) => ps.length - i) (0, _, _, [], es, clock, [], []) (⟨by show 0 ≤ _; omega, All2.nil _, hes, fun _ => ⟨rfl, rfl⟩⟩) (eC rfl (eN _)) rfl rfl ?_ (eC rfl (eC rfl (eC rfl (eN _))))
 intro ⟨i, A, ca, nbs, es1, ck1, G, l⟩ hI K hK
 change Run _ _ _ _ _ [(6, _), (5, _), (0, _), (1, _)] [_, _, _, _, _] [_, _, _, _, _, _]
 obtain ⟨hi, hall, hok, hno⟩ := hI
 refine rO 10 rfl (zB xG rfl rfl ?_)
 refine zA (zF 2 sc148 rfl rfl rfl rfl ?_)
 refine zA (zZ sl148 rfl rfl ?_)
 refine zA (yT rfl rfl rfl ?_)
 refine yK (zM rfl (fun h23 => ?_) (fun h23 => ?_))
 ·refine rO 10 rfl (zB xG rfl rfl ?_)
  refine zA (zF 2 sc148 rfl rfl rfl rfl ?_)
  refine oO 3 rfl (xK (i := 2 * i) 3 sl148 rfl rfl rfl rfl (by omega) ?_)
  have hlt : i < ps.length := by omega
  refine wK 3 (2 * i) rfl (fm_get0 hlt) (fun b1 => ?_)
  refine vP 1 rfl (fun A1 cap1 ht1 hv1 hl1 hc1 => ?_)
  refine zA (yN sc102 rfl rfl (fun _ h => wL h (j := 2) rfl) ?_)
  refine oO 3 rfl (zB xR rfl rfl ?_)
  refine zA (zF 0 sc9 rfl rfl rfl rfl ?_)
  refine oK 3 [7, 6, 5, 0, 1] rfl rfl (rO 7 rfl ?_)
  refine zB xG rfl rfl (zA ?_)
  refine zF 6 sc148 rfl rfl rfl rfl (oO 3 rfl ?_)
  refine yL rfl rfl (by omega) (zA ?_)
  refine xK (i := 2 * i + 1) 7 sl148 rfl rfl rfl rfl (by omega) (wK 7 (2 * i + 1) rfl (fm_get1 hlt) (fun b2 => ?_))
  refine zA (yN sc102 rfl rfl (fun _ h => wL h (j := 0) rfl) ?_)
  refine oO 14 rfl (zB rA rfl rfl ?_)
  refine zA (vM 4 sc104 rfl rfl rfl hcs ?_)
  refine zA (xF 3 rfl rfl rfl (H _ (List.getElem_mem hlt) _ es1 ck1 hok) rfl (sub2 1 11 rfl rfl) (fun u50 M50 D50 hv50 => ?_))
  obtain ⟨b50, G50, es50, ck50, rfl, rfl, rfl, hU50, hO50, hN50, hI50⟩ := hv50
  refine zA (yF rfl rfl (bu179_0_1 ..) ?_)
  refine zA (yJ rfl rfl rfl (fun b52 => ?_))
  refine oK 3 [9, 6, 5, 0, 1] rfl rfl (rO 2 rfl ?_)
  refine zI 3 sc110 rfl rfl rfl rfl (oO 3 rfl ?_)
  refine zK sl110 rfl rfl rfl rfl rfl (fun b55 => ?_)
  refine zA ?_
  refine op_apd 5 0 sl110 (fun A56 c56 => ?_)
  refine zA (zG 4 (M' := [_, _, _, _, HA.blk _ [_] _, _, _, _]) rfl rfl rfl rfl si110 rfl rfl rfl ?_)
  refine oO 6 rfl (yP (s := ((2 * (i + 1) : Nat) : Int)) rfl rfl rfl (by omega) (by omega) (by omega) ?_)
  refine oR 3 rfl (yW 1 rfl (by simp [foots, HA.foot]) ?_)
  refine zY (.nam (nbs ++ [b52]) (l ++ [(ps[i].1, b50)])) (fun w ok h => NamP.snoc (dget h 8 rfl) hv1 (dget h 0 rfl)) (wR 2 10 rfl rfl ?_)
  refine uA 1 4 rfl rfl ?_
  rw [tD, qA]
  exact kQ (hK (i + 1, _, _, nbs ++ [b52], es50, ck50, G50 ++ G, l ++ [((ps[i]'hlt).1, b50)]) (⟨by show i + 1 ≤ _; omega, sF hlt (urel_l hall) ⟨rfl, unf_r hU50⟩, hO50, fun h => by obtain ⟨h1, h2⟩ := noid_step hlt h; obtain ⟨e1, e2⟩ := hno h1; obtain ⟨e3, e4⟩ := hN50 h2; exact ⟨e3.trans e1, e4.trans e2⟩⟩) (by show ps.length - (i + 1) < ps.length - i; omega)) (eC rfl (eC rfl (eC rfl (eC rfl (eN _))))) (hD := (subc 1 rfl (subc 0 rfl sQ)))
 refine rK 6 [4] rfl rfl ?_
 have hge : ps.length ≤ i := by omega
 rw [List.take_of_length_le hge] at hall hno
 refine sN (p := nbs.length = l.length) (fun w ok h => (dget h 0 rfl : (DA.nam nbs l).p w ok).1) (fun hnl => ?_)
 have hll : l.length = ps.length := hall.1
 obtain rfl : i = nbs.length := by omega
 refine wG (M' := HA.blk sb cs 124 :: HA.many 124 (Gr.blks G) :: HA.obj mb (.map es1 ck1) :: HA.blk b5 [.slice A nbs.length ca] 110 :: HA.row A nbs.length ca 125 1 (nbs.map ptr) :: []) (by repeat (first | exact yB _ | refine zD 0 rfl ?_ | refine zD 1 rfl ?_ | refine zD 2 rfl ?_ | refine zD 3 rfl ?_ | refine zD 4 rfl ?_)) ?_
 exact zC Tryz.results141 rfl ⟨b5, A, ca, nbs, G, es1, ck1, l, rfl, rfl, rfl, hall, hok, hno⟩ (List.Sublist.refl _) (sub2 0 1 rfl rfl)
theorem bc23 {ft : DA} {back : Bool} {x : V} (h : x.kind = 5) (hl : x.keys.length ≤ 1000000) (h5 : ∀ y ∈ x.items, y.kind = 5) (H : ∀ y ∈ x.items, ∀ mb, C103 ft mb back y) : ∀ sb nb mb cs es clock, cs[0]? = some (.map (some mb)) → MapOk es → Ct Tryz.prog 141 #[ptr sb, ptr nb] [.blk sb cs 124, .obj mb (.map es clock)] [.node nb (nodeV back x), ft] (RA mb es clock sb cs x) := by
 intro sb nb mb cs es clock hcs hes
 rw [sE h]
 refine (c141A ft sb nb mb cs back (prs back x) (Nat.le_trans (prs_len back x) hl) hcs (fun p hp => H _ (pI hp) mb) es clock hes).mono ?_
 rintro u M' D' ⟨hb, A, ca, nbs, G, es', ck', l, rfl, rfl, rfl, hU, hO, hN⟩
 exact ⟨hb, A, ca, nbs, G, es', ck', l, rfl, rfl, rfl, ⟨rfl, _, uO back x, hU⟩, hO, fun hz => hN (fun p hp => hz _ (by rw [kids9 h5]; exact pI hp))⟩
theorem iA {q : Nat} {X A B : Prop} (hF : FieldOff Tryz.prog 124 q q) (si : X) (x : B) (hq : Nm q := by exact rfl) (hqa : NmA q := by exact rfl) (h : FieldOff Tryz.prog 124 q q → X → Nm q → NmA q → B → A := by
  intro hF si hq hqa k
  refine rR 7 rfl ?_
  refine zM rfl (fun h => ?_) (fun h => rK 0 [55, 8, 6, 5, 0, 1] rfl rfl ?_)
  rotate_left
  · revert h
    exact k
  have hkw := kwQ hq h (by decide +kernel)
  have hB := HB _ hmem _ rfl (by rw [hkw]; decide)
  rw [hkw] at hB
  refine rO 8 rfl ?_
  refine tW 0 1 rfl rfl rfl (hB _ _ _ _ es1 ck1 hcs hok) rfl rfl (sub2 1 11 rfl rfl) (fun u M D hv => ?_)
  obtain ⟨p, fv, G1, es2, ck2, rfl, rfl, rfl, hF1, hO1, hN1⟩ := hv
  refine oO 3 rfl ?_
  refine zB hF rfl rfl ?_
  refine oO 1 rfl ?_
  refine tJ 0 rfl rfl rfl rfl rfl si (by omega) ?_
  refine oO 7 rfl ?_
  refine yP (s := ((2 * (i + 1) : Nat) : Int)) rfl rfl rfl (by omega) (by omega) (by omega) ?_
  refine oR 3 rfl ?_
  refine run_fsetA hqa 8 0 rfl rfl ?_
  refine wR 2 10 rfl rfl ?_
  refine uA 1 2 rfl rfl ?_
  rw [tD]
  exact wC (hK (i + 1, cs.set _ (.pointer (some p)), Flds.set f _ fv, es2, ck2, G1 ++ G, hh) (in103 hlt hlen hcs hr hq.nmok.1 hkw hF1 hO1 hno hN1) (by show (prs back v).length - (i + 1) < (prs back v).length - i; omega)) (eC rfl (eC rfl (eC rfl (eC rfl (eN _))))) (by repeat (first | exact wT _ | exact yB _ | refine zD 0 rfl ?_ | refine zD 1 rfl ?_ | refine zD 2 rfl ?_)) sW) : A := h hF si hq hqa x

set_option maxHeartbeats 4000000 in
theorem c103A (ft : DA) (mb : Nat) (back : Bool) (v : V) (hw : Wf v) (hk5 : v.kind = 5) (hko : KeysOk v.keys) (HB : ∀ p ∈ prs back v, ∀ F, bldOf (kwIdx p.1) = F → F ≠ 0 → BC ft back F (shIdx (kwIdx p.1)) p.2) (HB23 : ∀ p ∈ prs back v, kwIdx p.1 = 23 → ∀ sb nb mb cs es clock, cs[0]? = some (.map (some mb)) → MapOk es → Ct Tryz.prog 141 #[ptr sb, ptr nb] [.blk sb cs 124, .obj mb (.map es clock)] [.node nb (nodeV back p.2), ft] (RA mb es clock sb cs p.2)) (HN : ∀ p ∈ prs back v, kwIdx p.1 = 31 → C103 ft mb back p.2)
  (nb : Nat) (es : Array MapEntry) (clock : Nat) (hes : MapOk es) : Ct Tryz.prog 103 #[ptr nb, .map (some mb)] [.obj mb (.map es clock)] [.node nb (nodeV back v), ft] (R103A mb v) := by
 refine Ct.of_run (args := [ptr nb, .map (some mb)]) Tryz.func103 (by kernel_rfl) rfl Tryz.ntmps103 rfl (fun c => ?_)
 have hkl := hw.kl
 have hpl := prs_len back v
 rw [sE hk5]
 refine yZ 0 rfl (fun A0 cap0 ht0 hv0 hl0 hc0 => ?_)
 rw [rJ]
 rw [rJ] at hl0
 unfold maxLen at hc0
 refine rO 13 rfl (zB xO rfl rfl ?_)
 refine zA (zF 0 sc146 rfl rfl rfl rfl ?_)
 refine oO 23 rfl (yF rfl rfl (bu124_0 ..) ?_)
 refine zA (yJ rfl rfl rfl (fun b27 => ?_))
 refine oK 3 [5, 0, 1] rfl rfl (rK 7 [6, 5, 0, 1] rfl rfl ?_)
 refine zY (.graph mb []) (fun w ok h g hg => by cases hg) (zY (.fldsH mb (.map (some mb) :: List.replicate 36 (.pointer none)) (fun _ => none) (none, none, 0, [])) (fun w ok h => cells0H w ok mb) ?_)
 refine wD 125 1 (tK 110 ?_)
 refine tK 124 ?_
 refine wG (M' := HA.blk b27 (.map (some mb) :: List.replicate 36 (.pointer none)) 124 :: HA.many 124 [] :: HA.obj mb (.map es clock) :: HA.many 110 [] :: HA.row none 0 0 125 1 [] :: []) (by repeat (first | exact yB _ | refine zD 0 rfl ?_ | refine zD 1 rfl ?_ | refine zD 2 rfl ?_ | refine zD 3 rfl ?_ | refine zD 4 rfl ?_)) ?_
 refine yS 1 (fun (⟨i, cs, f, es1, ck1, G, hh⟩ : Nat × List Value × Flds × Array MapEntry × Nat × Gr × Hd) => i ≤ (prs back v).length ∧ cs.length = 37 ∧ cs[0]? = some (.map (some mb)) ∧ RelAt G back v i f ∧ MapOk es1 ∧ (NIs ((prs back v).take i) → es1 = es ∧ ck1 = clock)) (fun (⟨i, cs, f, es1, ck1, G, hh⟩ : Nat × List Value × Flds × Array MapEntry × Nat × Gr × Hd) => [(6, .int .i64 ((2 * i : Nat) : Int))]) (fun (⟨i, cs, f, es1, ck1, G, hh⟩ : Nat × List Value × Flds × Array MapEntry × Nat × Gr × Hd) => HA.blk b27 cs 124 :: HA.many 124 (Gr.blks G) :: HA.obj mb (.map es1 ck1) :: hdI hh :: hdR hh :: []) (fun (⟨i, cs, f, es1, ck1, G, hh⟩ : Nat × List Value × Flds × Array MapEntry × Nat × Gr × Hd) => .fldsH mb cs f hh :: .graph mb G :: .dblk nb (ycells 4 tMap ⟨#[]⟩ A0 (2 * (prs back v).length) cap0) 150 :: .kids (.slice A0 (2 * (prs back v).length) cap0) (((prs back v).map (nodeP back)).flatMap prY) :: .node nb (.mk 4 tMap ⟨#[]⟩ (((prs back v).map (nodeP back)).flatMap prY)) :: ft :: []) (fun (⟨i, cs, f, es1, ck1, G, hh⟩ : Nat × List Value × Flds × Array MapEntry × Nat × Gr × Hd) => (prs back v).length - i) (0, _, (fun _ => none), es, clock, [], (none, none, 0, [])) (⟨Nat.zero_le _, rfl, rfl, RelAt.zero _ _ _, hes, fun _ => ⟨rfl, rfl⟩⟩) (eC rfl (eN _)) rfl rfl ?_ (eC rfl (eC rfl (eC rfl (eN _))))
 intro ⟨i, cs, f, es1, ck1, G, hh⟩ hI K hK
 change Run _ _ _ _ _ [(6, _), (5, _), (0, _), (1, _)] [_, _, _, _, _] [_, _, _, _, _, _]
 obtain ⟨hi, hlen, hcs, hr, hok, hno⟩ := hI
 refine rO 10 rfl (zB xG rfl rfl ?_)
 refine zA (zF 2 sc148 rfl rfl rfl rfl ?_)
 refine zA (zZ sl148 rfl rfl ?_)
 refine zA (yT rfl rfl rfl ?_)
 refine yK (zM rfl (fun h34 => ?_) (fun h34 => ?_))
 ·refine rO 10 rfl (zB xG rfl rfl ?_)
  refine zA (zF 2 sc148 rfl rfl rfl rfl ?_)
  refine oO 3 rfl (xK (i := 2 * i) 3 sl148 rfl rfl rfl rfl (by omega) ?_)
  have hlt : i < (prs back v).length := by omega
  have hmem := List.getElem_mem hlt
  have hpi := List.getElem?_eq_getElem hlt
  refine wK 3 (2 * i) rfl (fm_get0 hlt) (fun b1 => ?_)
  refine vP 1 rfl (fun A1 cap1 ht1 hv1 hl1 hc1 => ?_)
  refine zA (yN sc102 rfl rfl (fun _ h => wL h (j := 2) rfl) ?_)
  refine oO 3 rfl (zB xR rfl rfl ?_)
  refine zA (zF 0 sc9 rfl rfl rfl rfl ?_)
  refine oK 3 [7, 6, 5, 0, 1] rfl rfl (rO 7 rfl ?_)
  refine zB xG rfl rfl (zA ?_)
  refine zF 6 sc148 rfl rfl rfl rfl (oO 3 rfl ?_)
  refine yL rfl rfl (by omega) (zA ?_)
  refine xK (i := 2 * i + 1) 7 sl148 rfl rfl rfl rfl (by omega) (wK 7 (2 * i + 1) rfl (fm_get1 hlt) (fun b2 => ?_))
  refine zA (yN sc102 rfl rfl (fun _ h => wL h (j := 0) rfl) ?_)
  refine oK 8 [55, 8, 6, 5, 0, 1] rfl rfl (run_block ?_)
  refine iA fo124_1 si111 ?_
  intro h56
  refine iA rB si111 ?_
  intro h64
  refine iA fo124_6 si113 ?_
  intro h72
  refine iA fo124_7 si113 ?_
  intro h80
  refine iA fo124_8 si112 ?_
  intro h88
  refine iA fo124_9 si113 ?_
  intro h96
  refine iA fo124_10 si112 ?_
  intro h104
  refine iA fo124_11 si114 ?_
  intro h112
  refine iA fo124_12 si114 ?_
  intro h120
  refine iA fo124_13 si111 ?_
  intro h128
  refine iA fo124_14 si115 ?_
  intro h136
  refine iA fo124_15 si116 ?_
  intro h144
  refine iA fo124_16 si114 ?_
  intro h152
  refine iA fo124_17 si114 ?_
  intro h160
  refine iA fo124_18 si112 ?_
  intro h168
  refine iA fo124_19 si114 ?_
  intro h176
  refine iA fo124_20 si114 ?_
  intro h184
  refine iA fo124_21 si117 ?_
  intro h192
  refine iA fo124_22 si115 ?_
  intro h200
  refine rR 7 rfl (zM rfl (fun h208 => ?_) (fun h208 => rK 0 [55, 8, 6, 5, 0, 1] rfl rfl ?_))
  ·have hkw : kwIdx (prs back v)[i].1 = 23 := by rw [h208]; decide +kernel
   have hB := HB23 _ hmem hkw
   refine rO 8 rfl (tW 0 1 rfl rfl rfl (hB _ _ _ _ es1 ck1 hcs hok) rfl rfl (sub2 1 11 rfl rfl) (fun u M D hv => ?_))
   obtain ⟨hb, A9, ca9, nbs, G1, es2, ck2, l, rfl, rfl, rfl, hF1, hO1, hN1⟩ := hv
   refine oO 3 rfl (zB rT rfl rfl ?_)
   refine oO 1 rfl (tJ 0 rfl rfl rfl rfl rfl si118 (by omega) ?_)
   refine oO 7 rfl (yP (s := ((2 * (i + 1) : Nat) : Int)) rfl rfl rfl (by omega) (by omega) (by omega) ?_)
   refine oR 3 rfl (run_fsetN 8 0 hb A9 ca9 rfl rfl ?_)
   refine wR 2 10 rfl rfl (run_toMany 3 rfl ?_)
   refine uA 2 4 rfl rfl ?_
   rw [tD]
   exact wC (hK (i + 1, cs.set 23 (ptr hb), Flds.set f 23 (.named l), es2, ck2, G1 ++ G, (some hb, A9, ca9, nbs)) (in103 hlt hlen hcs hr (by decide) hkw hF1 hO1 hno hN1) (by show (prs back v).length - (i + 1) < (prs back v).length - i; omega)) (eC rfl (eC rfl (eC rfl (eC rfl (eN _))))) (by repeat (first | exact yB _ | refine zD 0 rfl ?_ | refine zD 1 rfl ?_ | refine zD 2 rfl ?_ | refine zD 3 rfl ?_ | refine zD 4 rfl ?_)) sW
  refine iA fo124_24 si118 ?_
  intro h216
  refine iA fo124_25 si119 ?_
  intro h224
  refine iA fo124_26 si120 ?_
  intro h232
  refine iA fo124_27 si121 ?_
  intro h240
  refine iA fo124_28 si122 ?_
  intro h248
  refine iA fo124_29 si122 ?_
  intro h256
  refine iA fo124_30 si122 ?_
  intro h264
  refine rR 7 rfl (zM rfl (fun h272 => ?_) (fun h272 => ?_))
  ·refine rO 10 rfl (zB rA rfl rfl ?_)
   refine zA (vM 0 sc104 rfl rfl rfl hcs ?_)
   refine zA ?_
   have hkw : kwIdx (prs back v)[i].1 = 31 := by rw [h272]; decide +kernel
   have hB := HN _ hmem hkw
   refine xF 2 rfl rfl rfl (hB _ es1 ck1 hok) rfl (sub2 1 11 rfl rfl) (fun u280 M280 D280 hv280 => ?_)
   obtain ⟨b280, G280, es280, ck280, rfl, rfl, rfl, hU280, hO280, hN280, hI280⟩ := hv280
   refine oO 3 rfl (zB fo124_31 rfl rfl ?_)
   refine zA (tJ 2 rfl rfl rfl rfl rfl si63 (by omega) ?_)
   refine oK 1 [6, 5, 0, 1] rfl rfl (rO 6 rfl ?_)
   refine yP (s := ((2 * (i + 1) : Nat) : Int)) rfl rfl rfl (by omega) (by omega) (by omega) (oR 3 rfl ?_)
   refine zY (.fv (ptr b280) (.one b280)) (fun w ok h => rfl) (run_fsetA (q := 31) rfl 8 0 rfl rfl ?_)
   refine wR 2 10 rfl rfl (uA 0 2 rfl rfl ?_)
   rw [tD]
   exact kQ (hK (i + 1, cs.set 31 (ptr b280), Flds.set f 31 (.one b280), es280, ck280, G280 ++ G, hh) (⟨by show i + 1 ≤ _; omega, by show (cs.set 31 _).length = 37; rw [List.length_set]; exact hlen, by show (cs.set 31 _)[0]? = _; rw [List.getElem?_set_ne (by decide)]; exact hcs, hr.stepK hpi hkw ⟨rfl, hU280⟩, hO280, fun h => by obtain ⟨h1, h2⟩ := sU hlt h; obtain ⟨e1, e2⟩ := hno h1; rw [kw_sh (by rw [hkw]; decide), hkw] at h2; obtain ⟨e3, e4⟩ := hN280 (h2 _ (by show _ ∈ kidsOf 5 _; simp [kidsOf])); exact ⟨e3.trans e1, e4.trans e2⟩⟩) (by show (prs back v).length - (i + 1) < (prs back v).length - i; omega)) (eC rfl (eC rfl (eC rfl (eC rfl (eN _))))) (hD := sW)
  refine iA fo124_32 si118 ?_
  intro h283
  refine iA fo124_33 si111 ?_
  intro h291
  refine iA fo124_34 si111 ?_
  intro h299
  refine rR 7 rfl (zM rfl (fun h307 => ?_) (fun h307 => ?_))
  ·refine rO 8 rfl (zB fo124_35 rfl rfl ?_)
   refine zA (tJ 0 rfl rfl rfl rfl rfl si102 (by omega) ?_)
   refine oK 1 [6, 5, 0, 1] rfl rfl (rO 6 rfl ?_)
   refine yP (s := ((2 * (i + 1) : Nat) : Int)) rfl rfl rfl (by omega) (by omega) (by omega) (oR 3 rfl ?_)
   refine zY (.fv (ptr b2) .any) (fun w ok h => ⟨_, rfl⟩) (run_fsetA (q := 35) rfl 7 0 rfl rfl ?_)
   exact kQ (hK (i + 1, cs.set 35 (ptr b2), Flds.set f 35 .any, es1, ck1, G, hh) (⟨by show i + 1 ≤ _; omega, by show (cs.set 35 _).length = 37; rw [List.length_set]; exact hlen, by show (cs.set 35 _)[0]? = _; rw [List.getElem?_set_ne (by decide)]; exact hcs, hr.stepA hpi (by rw [h307]; decide +kernel) rfl, hok, fun h => hno (sU hlt h).1⟩) (by show (prs back v).length - (i + 1) < (prs back v).length - i; omega)) (eC rfl (eC rfl (eC rfl (eC rfl (eN _))))) (hD := sW)
  refine iA fo124_36 si111 ?_
  intro h313
  refine iA fo124_3 si111 ?_
  intro h321
  refine rO 7 rfl (yP (s := ((2 * (i + 1) : Nat) : Int)) rfl rfl rfl (by omega) (by omega) (by omega) ?_)
  refine oR 3 rfl ?_
  exact kQ (hK (i + 1, cs, f, es1, ck1, G, hh) (⟨by show i + 1 ≤ _; omega, hlen, hcs, hr.skip hpi (by unfold kwIdx; rw [if_neg h56, if_neg h64, if_neg h72, if_neg h80, if_neg h88, if_neg h96, if_neg h104, if_neg h112, if_neg h120, if_neg h128, if_neg h136, if_neg h144, if_neg h152, if_neg h160, if_neg h168, if_neg h176, if_neg h184, if_neg h192, if_neg h200, if_neg h208, if_neg h216, if_neg h224, if_neg h232, if_neg h240, if_neg h248, if_neg h256, if_neg h264, if_neg h272, if_neg h283, if_neg h291, if_neg h299, if_neg h307, if_neg h313, if_neg h321]), hok, fun h => hno (sU hlt h).1⟩) (by show (prs back v).length - (i + 1) < (prs back v).length - i; omega)) (eC rfl (eC rfl (eC rfl (eC rfl (eN _))))) (hD := sW)
 obtain rfl : i = (prs back v).length := by omega
 rw [List.take_length] at hno
 have hUnf : Unf ([(b27, cs, f)] ++ G) v b27 := unf_end (cs := cs) hw hk5 hko (hr.mono fun g hg => List.mem_append_right _ hg) (List.mem_append_left _ (by simp))
 refine sN (p := ∃ q, cs[2]? = some (.pointer q) ∧ q.isSome = (f 2).isSome) (fun w ok h => fld_cellH (dget h 0 rfl) 2 (by decide) (by decide) (by decide)) (fun ⟨q2, hq2, hq2s⟩ => ?_)
 refine rO 9 rfl (zB rB rfl rfl ?_)
 refine zA (vM 0 sc111 rfl rfl rfl hq2 ?_)
 refine zA (xH pn111 rfl rfl ?_)
 refine oK 1 [333, 5, 1] rfl rfl (yQ rfl (fun h333 => ?_) (fun h333 => ?_))
 ·obtain ⟨p9, rfl⟩ : ∃ p9, q2 = some p9 := Option.isSome_iff_exists.1 h333
  obtain ⟨fv2, hf2⟩ : ∃ fv2, f 2 = some fv2 := Option.isSome_iff_exists.1 (hq2s.symm.trans h333)
  have hrel := hr 2 (by decide) (by decide)
  rw [hf2] at hrel
  obtain ⟨pp, hpp, hkpp, hfpp⟩ := hrel
  rw [List.take_length] at hpp
  obtain rfl := text_of hfpp
  have hgid : getV v kId = some pp.2 := by rw [← kw2 hkpp]; exact prs_get hw hk5 hko hpp
  refine zY (.pts p9 (.string pp.2.text)) (fun w ok h => id_ptsH (dget h 0 rfl) hf2 hq2) (rO 6 rfl ?_)
  refine op_eqlNilM mp104 rfl rfl (oO 11 rfl ?_)
  refine zB rB rfl rfl (zA ?_)
  refine vM 0 sc111 rfl rfl rfl hq2 (oO 3 rfl ?_)
  refine xC 0 sc9 rfl rfl rfl (oO 3 rfl ?_)
  refine op_mapUpd 2 mp104 st9 rfl rfl rfl rfl hok (fun es9 ck9 hok9 hemp => ?_)
  refine oK 1 [5] rfl rfl (rR 7 rfl ?_)
  exact zC Tryz.results103 rfl ⟨b27, cs, G, es9, ck9, f, hh, rfl, rfl, rfl, hUnf⟩ (List.Sublist.refl _) (sub2 1 2 rfl rfl)
 exact rR 8 rfl (zC Tryz.results103 rfl ⟨b27, cs, G, es1, ck1, f, hh, rfl, rfl, rfl, hUnf⟩ (List.Sublist.refl _) (sub2 0 1 rfl rfl))
theorem c103r (ft : DA) (back : Bool) (v : V) (hN : NumC ft ∨ NoNum v) (hp : Pl v) (hs : IsShape v) (mb : Nat) (nb : Nat) (es : Array MapEntry) (clock : Nat) (hes : MapOk es) : Ct Tryz.prog 103 #[ptr nb, .map (some mb)] [.obj mb (.map es clock)] [.node nb (nodeV back v), ft] (R103A mb v) := by
 have hk5 := hs.kind
 have hfit := ((xT v).1 hs).2
 have sub : ∀ p ∈ prs back v, ∀ z ∈ kidsOf (shapeOf p.1) p.2, Pl z → ∀ mb, C103 ft mb back z := by
  intro p hpm z hz hpz
  obtain ⟨j, hj1, hj2⟩ := pJ hpm
  refine c103 ft back z ?_ hpz ((hfit j _ _ hj1 hj2).2.1 z hz)
  exact hN.imp id fun h => ((sH v).1 h j _ _ hj1 hj2).2.2 z hz
 refine c103A ft mb back v hp.wf hk5 (hp.keys hk5) (hb_of hN hp hs sub) (fun p hpm hkw => ?_) (hn_of hp sub mb) nb es clock hes
 obtain ⟨j, hj1, hj2⟩ := pJ hpm
 have hpl := hp.item _ (List.mem_of_getElem? hj2)
 have hsh := kw_sh (key := p.1) (by rw [hkw]; decide)
 rw [hkw] at hsh
 have hsub := sub p hpm
 have hf := (hfit j _ _ hj1 hj2).1
 rw [hsh] at hsub hf
 have hf' : p.2.kind = 5 ∧ ∀ x ∈ p.2.items, x.kind = 5 := by simpa [FitLoc, shIdx] using hf
 exact bc23 hf'.1 hpl.wf.kl hf'.2 (fun y hy => hsub y (by show y ∈ kidsOf 9 p.2; rw [kids9 hf'.2]; exact hy) (hpl.item y hy))
def R57A (v : V) (u : Value) (M' : List HA) (D' : List DA) : Prop := ∃ mb, R103A mb v u M' D'
theorem c57A (ft : DA) (back : Bool) (v : V) (x : Value) (hN : NumC ft ∨ NoNum v) (hp : Pl v) (hs : IsShape v) : Ct Tryz.prog 57 #[x, .bool back] [] [.val x v, .tab, ft] (R57A v) := by
 refine Ct.of_run (args := [x, .bool back]) Tryz.func57 (by kernel_rfl) rfl Tryz.ntmps57 rfl (fun c => ?_)
 refine xE 0 rfl (fun A1 c1 A2 c2 hx hsz hk1 hk2 hi1 hi2 => ?_)
 subst hx
 refine rO 3 rfl (yJ rfl rfl rfl (fun b2 => ?_))
 refine oO 6 rfl (zW 0 rfl ag25 rfl rfl ?_)
 refine oO 3 rfl (zR rfl rfl rfl (c104 v hp.wf hp.num back _) (sub2 2 3 rfl rfl) (fun u7 D7 hv7 => ?_))
 obtain ⟨b7, rfl, rfl⟩ := hv7
 refine zA (op_makeMap rfl (fun b8 => ?_))
 refine zA (xF 0 rfl rfl rfl (c103r ft back v hN hp hs b8 _ #[] 0 MapOk.empty) rfl (sub2 0 5 rfl rfl) (fun u9 M9 D9 hv9 => ?_))
 obtain ⟨b9, cs9, G9, es9, ck9, f9, h9, rfl, rfl, rfl, hU9⟩ := hv9
 refine oR 3 rfl ?_
 exact zC Tryz.results57 rfl ⟨b8, b9, cs9, G9, es9, ck9, f9, h9, rfl, rfl, rfl, hU9⟩ (by repeat (first | exact List.Sublist.refl _ | apply List.Sublist.cons_cons | exact List.nil_sublist _)) (sub2 0 1 rfl rfl)
theorem c151 (s : ByteArray) (hs : s.size ≤ maxLen) : CtR Tryz.prog 151 #[.string s] [] (RN (scal tStr s)) := by
 refine Ct.of_run (args := [.string s]) Tryz.func151 (by kernel_rfl) rfl Tryz.ntmps151 rfl (fun c => ?_)
 refine rO 10 rfl (yF rfl rfl (tV ..) ?_)
 refine zA (yJ rfl rfl rfl (fun b5 => ?_))
 refine oR 3 rfl (rV ?_)
 exact vC 0 0 rfl rfl (by intro b h; cases h) (by decide) hs (zC Tryz.results151 rfl ⟨rfl, b5, rfl, rfl⟩ nS (sub1 0 rfl))
theorem c153 (x : Bool) : CtR Tryz.prog 153 #[.bool x] [] (RN (scal tBool (fbB x))) := by
 refine Ct.of_run (args := [.bool x]) Tryz.func153 (by kernel_rfl) rfl Tryz.ntmps153 rfl (fun c => ?_)
 refine rO 10 rfl (zJ rfl rfl rfl (c147 _) sub0 ?_)
 refine zA (yF rfl rfl (tV ..) ?_)
 refine zA (yJ rfl rfl rfl (fun b6 => ?_))
 refine oR 3 rfl (rV ?_)
 exact vC 0 0 rfl rfl (by intro b h; cases h) (by decide) (by cases x <;> decide) (zC Tryz.results153 rfl ⟨rfl, b6, rfl, rfl⟩ nS (sub1 0 rfl))
theorem c150 (A : Option Addr) (m cap nb : Nat) (xs : List Value) (s : ByteArray) (hs : s.size ≤ maxLen) (hm : m ≤ 1000000) : Ct Tryz.prog 150 #[.slice A m cap, .string s, ptr nb] [.row A m cap 102 1 xs] []
  (fun u M' D' => ∃ A' cap' b, u = .slice A' (m + 2) cap' ∧ M' = [.row A' (m + 2) cap' 102 1 (xs ++ [ptr b, ptr nb])] ∧ D' = [.node b (scal tStr s)]) := by
 refine Ct.of_run (args := [.slice A m cap, .string s, ptr nb]) Tryz.func150 (by kernel_rfl) rfl Tryz.ntmps150 rfl (fun c => ?_)
 refine rO 12 rfl (zR rfl rfl rfl (c151 s hs) sub0 (fun u9 D9 hv9 => ?_))
 obtain ⟨b9, rfl, rfl⟩ := hv9
 refine zA (zK sl148 rfl rfl rfl rfl rfl (fun b10 => ?_))
 refine zA ?_
 refine op_apd 1 0 sl148 (fun A11 c11 => ?_)
 refine oO 10 rfl (zK sl148 rfl rfl rfl rfl rfl (fun b14 => ?_))
 refine zA ?_
 refine op_apd 2 0 sl148 (fun A15 c15 => ?_)
 refine oK 3 [0] rfl rfl (rR 7 rfl ?_)
 rw [List.append_assoc xs]
 exact zC Tryz.results150 rfl ⟨_, _, b9, rfl, rfl, rfl⟩ (by repeat (first | exact List.Sublist.refl _ | apply List.Sublist.cons)) (sub1 0 rfl)
def RKids (k : Int) (ys : List Y) : Y := .mk k ⟨#[]⟩ ⟨#[]⟩ ys
theorem c185 (A : Option Addr) (m cap : Nat) (ys : List Y) : CtR Tryz.prog 185 #[.slice A m cap] [.kids (.slice A m cap) ys] (RN (RKids 2 ys)) := by
 refine Ct.of_run (args := [.slice A m cap]) Tryz.func185 (by kernel_rfl) rfl Tryz.ntmps185 rfl (fun c => ?_)
 refine rO 10 rfl (yF rfl rfl (bu150_0_6 ..) ?_)
 refine zA (yJ rfl rfl rfl (fun b5 => ?_))
 refine oR 3 rfl (vC 0 0 rfl rfl (by intro b h; cases h) (by decide) (by decide) ?_)
 exact zC Tryz.results185 rfl ⟨rfl, b5, rfl, rfl⟩ nS (sub1 0 rfl)
theorem c186 (A : Option Addr) (m cap : Nat) (ys : List Y) : CtR Tryz.prog 186 #[.slice A m cap] [.kids (.slice A m cap) ys] (RN (RKids 4 ys)) := by
 refine Ct.of_run (args := [.slice A m cap]) Tryz.func186 (by kernel_rfl) rfl Tryz.ntmps186 rfl (fun c => ?_)
 refine rO 10 rfl (yF rfl rfl (bu150_0_6 ..) ?_)
 refine zA (yJ rfl rfl rfl (fun b5 => ?_))
 refine oR 3 rfl (vC 0 0 rfl rfl (by intro b h; cases h) (by decide) (by decide) ?_)
 exact zC Tryz.results186 rfl ⟨rfl, b5, rfl, rfl⟩ nS (sub1 0 rfl)
theorem c161 (n : Int) (h0 : -9223372036854775808 ≤ n) (h1 : n ≤ 9223372036854775807) : CtR Tryz.prog 161 #[.int .i64 n] [.tab] (RN (scal tInt (itoaB n))) := by
 refine Ct.of_run (args := [.int .i64 n]) Tryz.func161 (by kernel_rfl) rfl Tryz.ntmps161 rfl (fun c => ?_)
 refine rO 10 rfl (zJ rfl rfl rfl (c148 n h0 h1) (sub1 0 rfl) ?_)
 refine zA (yF rfl rfl (tV ..) ?_)
 refine zA (yJ rfl rfl rfl (fun b6 => ?_))
 refine oR 3 rfl (rV ?_)
 exact vC 0 0 rfl rfl (by intro b h; cases h) (by decide) (max_of (wV n h0 h1) (by decide)) (zC Tryz.results161 rfl ⟨rfl, b6, rfl, rfl⟩ nS (sub1 0 rfl))
theorem c156 (x : Value) (l : List ByteArray) (hl : l.length ≤ 1000000) : CtR Tryz.prog 156 #[x] [.strs x l] (RN (RKids 2 (l.map (scal tStr)))) := by
 refine Ct.of_run (args := [x]) Tryz.func156 (by kernel_rfl) rfl Tryz.ntmps156 rfl (fun c => ?_)
 refine tH 0 rfl (fun hsz => ?_)
 refine run_strs 0 rfl (fun A1 c1 hx hk1 hk2 => ?_)
 subst hx
 unfold maxLen at hk2
 refine rO 8 rfl (xD sl148 rfl rfl rfl (fun b6 => ?_))
 refine oO 9 rfl (zZ sl22 rfl rfl ?_)
 refine oK 4 [9, 3, 8, 7] rfl rfl (zY (.ptrs [] ((l.take 0).map (scal tStr))) (fun w ok h => rfl) ?_)
 refine yS 2 (fun (⟨i, A, ca, xs⟩ : Nat × Option Addr × Nat × List Value) => i ≤ l.length) (fun (⟨i, A, ca, xs⟩ : Nat × Option Addr × Nat × List Value) => [(9, .int .i64 ((i : Nat) : Int)), (3, .slice A i ca)]) (fun (⟨i, A, ca, xs⟩ : Nat × Option Addr × Nat × List Value) => HA.row A i ca 102 1 xs :: []) (fun (⟨i, A, ca, xs⟩ : Nat × Option Addr × Nat × List Value) => .ptrs xs ((l.take i).map (scal tStr)) :: .strs (.slice A1 l.length c1) l :: []) (fun (⟨i, A, ca, xs⟩ : Nat × Option Addr × Nat × List Value) => l.length - i) (0, _, _, []) (by show 0 ≤ _; omega) (eC rfl (eC rfl (eN _))) rfl rfl ?_ (eC rfl (eC rfl (eN _)))
 intro ⟨i, A, ca, xs⟩ hI K hK
 replace hI : i ≤ l.length := hI
 change Run _ _ _ _ _ [(9, _), (3, _), (8, _), (7, _)] [_] [_, _]
 refine rO 3 rfl (yT rfl rfl rfl ?_)
 refine oR 2 rfl (zM rfl (fun h10 => ?_) (fun h10 => ?_))
 ·refine rO 6 rfl (vK 1 sl22 rfl rfl rfl rfl (by omega) ?_)
  refine zA (yN sc9 rfl rfl (fun _ h => wM h (j := 1) rfl (List.getElem?_eq_getElem h10)) ?_)
  refine oO 9 rfl (zR rfl rfl rfl (c151 _ (hsz _ (List.getElem_mem h10))) sub0 (fun u15 D15 hv15 => ?_))
  obtain ⟨b15, rfl, rfl⟩ := hv15
  refine zA (zK sl148 rfl rfl rfl rfl rfl (fun b16 => ?_))
  refine zA ?_
  refine op_apd 1 0 sl148 (fun A17 c17 => ?_)
  refine oK 3 [3, 9, 8, 7] rfl rfl (rO 3 rfl ?_)
  refine yL rfl rfl (by omega) (oR 3 rfl ?_)
  refine wU 1 0 rfl rfl ?_
  rw [uM]
  exact kQ (hK (i + 1, _, _, _) (by show i + 1 ≤ _; omega) (by show l.length - (i + 1) < l.length - i; omega)) (eC rfl (eC rfl (eC rfl (eC rfl (eN _))))) (hD := (subc 0 rfl sQ))
 obtain rfl : i = l.length := by omega
 rw [List.take_length]
 refine vZ 0 0 _ rfl rfl (by intro b h; cases h) (rO 6 rfl ?_)
 refine zR rfl rfl rfl (c185 _ _ _ _) (sub1 0 rfl) (fun u20 D20 hv20 => ?_)
 obtain ⟨b20, rfl, rfl⟩ := hv20
 exact oR 3 rfl (zC Tryz.results156 rfl ⟨rfl, b20, rfl, rfl⟩ nS (sub1 0 rfl))
end Go.Jw

namespace Go.Jw
open Go Go.RowKit Go.Proofs
def DA.gr (mb : Nat) (G : Gr) : DA := ⟨fun w ok => ∀ g ∈ G, BlkP w ok g.1 g.2.1 124 ∧ ∃ m, CellsP w ok m g.2.1 g.2.2, fun h1 h2 h g hg => ⟨(h g hg).1.mono h1 h2, (h g hg).2.imp fun m hm => CellsP.mono h1 h2 hm⟩⟩
section rules
variable {P : Program} {n : Nat} {F : List Nat} {c : Ctx F} {ops : Array Oper} {d : Nat} {T : TypeId} {l : List Oper} {k : List KI} {Q : Post} {e : Env} {M : List HA} {D : List DA}
theorem vA {α : Type} (pr : α → Prop) (DD : α → List DA) (h : ∀ (w : World) (ok : Nat → Prop), (∀ d ∈ D, d.p w ok) → ∃ x, pr x ∧ ∀ d ∈ DD x, d.p w ok) (next : ∀ x, pr x → Run P n c k Q e M (DD x ++ D)) : Run P n c k Q e M D := by
 intro a w hf
 obtain ⟨x, hx, hd⟩ := h w _ hf.dat
 exact next x hx a w (hf.world (hf.toFitsW.data fun d hd' => (List.mem_append.1 hd').elim (hd d) (hf.dat d)))
theorem all1 {w : World} {ok : Nat → Prop} {d : DA} (h : d.p w ok) : ∀ x ∈ [d], x.p w ok := fun x hx => by rw [List.mem_singleton.1 hx]; exact h
theorem allc {w : World} {ok : Nat → Prop} {d : DA} {l : List DA} (h : d.p w ok) (hl : ∀ x ∈ l, x.p w ok) : ∀ x ∈ d :: l, x.p w ok := fun x hx => (List.mem_cons.1 hx).elim (fun e => e ▸ h) (hl x)
theorem run_tyS (j : Nat) {u : Value} {s : ByteArray} (hj : D[j]? = some (.fv u (.tyS s))) (next : ∀ b p, u = ptr b → s.size ≤ maxLen → Run P n c k Q e M (.dblk b [.pointer (some p), .pointer none] 196 :: .pts p (.string s) :: D)) : Run P n c k Q e M D :=
 vA (α := Nat × Addr) (fun x => u = ptr x.1 ∧ s.size ≤ maxLen) (fun x => [.dblk x.1 [.pointer (some x.2), .pointer none] 196, .pts x.2 (.string s)]) (fun w ok h => by
  obtain ⟨b, p, h1, h2, h3, h4⟩ : FvP w ok (.tyS s) u := dget h j hj
  exact ⟨(b, p), ⟨h1, h2⟩, allc h3 (all1 h4)⟩) (fun x hx => next x.1 x.2 hx.1 hx.2)
theorem run_tyL (j : Nat) {u : Value} {l : List ByteArray} (hj : D[j]? = some (.fv u (.tyL l))) (next : ∀ b p sl, u = ptr b → Run P n c k Q e M (.dblk b [.pointer none, .pointer (some p)] 196 :: .pts p sl :: .strs sl l :: D)) : Run P n c k Q e M D :=
 vA (α := Nat × Addr × Value) (fun x => u = ptr x.1) (fun x => [.dblk x.1 [.pointer none, .pointer (some x.2.1)] 196, .pts x.2.1 x.2.2, .strs x.2.2 l]) (fun w ok h => by
  obtain ⟨b, p, sl, h1, h3, h4, h5⟩ : FvP w ok (.tyL l) u := dget h j hj
  exact ⟨(b, p, sl), h1, allc h3 (allc h4 (all1 h5))⟩) (fun x hx => next x.1 x.2.1 x.2.2 hx)
theorem run_gr (j : Nat) {mb b : Nat} {cs : List Value} {f : Flds} {G : Gr} (hj : D[j]? = some (.gr mb G)) (hg : (b, cs, f) ∈ G) (next : ∀ m : Nat, cs.length = 37 → Run P n c k Q e M (.dblk b cs 124 :: .flds m cs f :: D)) : Run P n c k Q e M D :=
 vA (α := Nat) (fun _ => cs.length = 37) (fun m => [.dblk b cs 124, .flds m cs f]) (fun w ok h => by
  obtain ⟨h1, m, h2⟩ := (dget h j hj : (DA.gr mb G).p w ok) _ hg
  exact ⟨m, h2.1, allc h1 (all1 h2)⟩) (fun m hl => next m hl)
end rules
end Go.Jw

namespace Go.Jw
open Go Go.RowKit Go.Proofs
set_option maxRecDepth 8000
theorem pn63 : Tryz.prog.underlying 63 = some (.pointer (Tryz.prog.pointee 63)) := by
 have h := Tryz.underlying63
 unfold Program.pointee
 rw [h]
theorem pn112 : Tryz.prog.underlying 112 = some (.pointer (Tryz.prog.pointee 112)) := by
 have h := Tryz.underlying112
 unfold Program.pointee
 rw [h]
theorem pn113 : Tryz.prog.underlying 113 = some (.pointer (Tryz.prog.pointee 113)) := by
 have h := Tryz.underlying113
 unfold Program.pointee
 rw [h]
theorem pn114 : Tryz.prog.underlying 114 = some (.pointer (Tryz.prog.pointee 114)) := by
 have h := Tryz.underlying114
 unfold Program.pointee
 rw [h]
theorem pn115 : Tryz.prog.underlying 115 = some (.pointer (Tryz.prog.pointee 115)) := by
 have h := Tryz.underlying115
 unfold Program.pointee
 rw [h]
theorem pn116 : Tryz.prog.underlying 116 = some (.pointer (Tryz.prog.pointee 116)) := by
 have h := Tryz.underlying116
 unfold Program.pointee
 rw [h]
theorem pn117 : Tryz.prog.underlying 117 = some (.pointer (Tryz.prog.pointee 117)) := by
 have h := Tryz.underlying117
 unfold Program.pointee
 rw [h]
theorem pn118 : Tryz.prog.underlying 118 = some (.pointer (Tryz.prog.pointee 118)) := by
 have h := Tryz.underlying118
 unfold Program.pointee
 rw [h]
theorem pn119 : Tryz.prog.underlying 119 = some (.pointer (Tryz.prog.pointee 119)) := by
 have h := Tryz.underlying119
 unfold Program.pointee
 rw [h]
theorem pn120 : Tryz.prog.underlying 120 = some (.pointer (Tryz.prog.pointee 120)) := by
 have h := Tryz.underlying120
 unfold Program.pointee
 rw [h]
theorem pn121 : Tryz.prog.underlying 121 = some (.pointer (Tryz.prog.pointee 121)) := by
 have h := Tryz.underlying121
 unfold Program.pointee
 rw [h]
theorem pn122 : Tryz.prog.underlying 122 = some (.pointer (Tryz.prog.pointee 122)) := by
 have h := Tryz.underlying122
 unfold Program.pointee
 rw [h]
theorem pn211 : Tryz.prog.underlying 211 = some (.pointer (Tryz.prog.pointee 211)) := by
 have h := Tryz.underlying211
 unfold Program.pointee
 rw [h]
theorem pn102 : Tryz.prog.underlying 102 = some (.pointer (Tryz.prog.pointee 102)) := by
 have h := Tryz.underlying102
 unfold Program.pointee
 rw [h]
theorem c154s (u : Value) (s : ByteArray) : CtR Tryz.prog 154 #[u] [.fv u (.tyS s)] (RN (scal tStr s)) := by
 refine Ct.of_run (args := [u]) Tryz.func154 (by kernel_rfl) rfl Tryz.ntmps154 rfl (fun c => ?_)
 refine run_tyS 0 rfl (fun b p hu hs => ?_)
 subst hu
 refine rO 12 rfl (zB fo196_0 rfl rfl ?_)
 refine zA (zF 0 sc111 rfl rfl rfl rfl ?_)
 refine zA (xH pn111 rfl rfl ?_)
 refine oO 9 rfl (zB fo196_0 rfl rfl ?_)
 refine zA (zF 0 sc111 rfl rfl rfl rfl ?_)
 refine oO 3 rfl (xC 1 sc9 rfl rfl rfl ?_)
 refine zA (zR rfl rfl rfl (c151 s hs) sub0 (fun u14 D14 hv14 => ?_))
 obtain ⟨b14, rfl, rfl⟩ := hv14
 exact oK 3 [2] rfl rfl (zC Tryz.results154 rfl ⟨rfl, b14, rfl, rfl⟩ nS (sub1 0 rfl))
theorem c154l (u : Value) (l : List ByteArray) (hl : l.length ≤ 1000000) : CtR Tryz.prog 154 #[u] [.fv u (.tyL l)] (RN (RKids 2 (l.map (scal tStr)))) := by
 refine Ct.of_run (args := [u]) Tryz.func154 (by kernel_rfl) rfl Tryz.ntmps154 rfl (fun c => ?_)
 refine run_tyL 0 rfl (fun b p sl hu => ?_)
 subst hu
 refine rO 12 rfl (zB fo196_0 rfl rfl ?_)
 refine zA (zF 0 sc111 rfl rfl rfl rfl ?_)
 refine zA (xH pn111 rfl rfl ?_)
 refine oO 9 rfl (zB fo196_1 rfl rfl ?_)
 refine zA (zF 0 sc117 rfl rfl rfl rfl ?_)
 refine zA (xH pn117 rfl rfl ?_)
 refine oK 1 [19, 0] rfl rfl (rO 8 rfl ?_)
 refine zB fo196_1 rfl rfl (zA ?_)
 refine zF 0 sc117 rfl rfl rfl rfl (oO 3 rfl ?_)
 refine xC 1 sc22 rfl rfl rfl (zA ?_)
 refine zR rfl rfl rfl (c156 _ l hl) (sub1 2 rfl) (fun u26 D26 hv26 => ?_)
 obtain ⟨b26, rfl, rfl⟩ := hv26
 exact oK 3 [2] rfl rfl (zC Tryz.results154 rfl ⟨rfl, b26, rfl, rfl⟩ nS (sub1 0 rfl))
end Go.Jw

namespace Go.Jw
open Go Go.RowKit Go.Proofs
section rules
variable {P : Program} {n : Nat} {F : List Nat} {c : Ctx F} {ops : Array Oper} {d : Nat} {T : TypeId} {l : List Oper} {k : List KI} {Q : Post} {e : Env} {M : List HA} {D : List DA}
theorem run_text (j : Nat) {u : Value} {s : ByteArray} (hj : D[j]? = some (.fv u (.text s))) (next : ∀ p, u = .pointer (some p) → s.size ≤ maxLen → Run P n c k Q e M (.pts p (.string s) :: D)) : Run P n c k Q e M D :=
 vA (α := Addr) (fun p => u = .pointer (some p) ∧ s.size ≤ maxLen) (fun p => [.pts p (.string s)]) (fun w ok h => by
  obtain ⟨p, h1, h2, h3⟩ : FvP w ok (.text s) u := dget h j hj
  exact ⟨p, ⟨h1, h2⟩, all1 h3⟩) (fun x hx => next x hx.1 hx.2)
theorem run_bool (j : Nat) {u : Value} {x : Bool} (hj : D[j]? = some (.fv u (.bool x))) (next : ∀ p, u = .pointer (some p) → Run P n c k Q e M (.pts p (.bool x) :: D)) : Run P n c k Q e M D :=
 vA (α := Addr) (fun p => u = .pointer (some p)) (fun p => [.pts p (.bool x)]) (fun w ok h => by
  obtain ⟨p, h1, h3⟩ : FvP w ok (.bool x) u := dget h j hj
  exact ⟨p, h1, all1 h3⟩) (fun x hx => next x hx)
theorem run_int (j : Nat) {u : Value} {x : Int} (hj : D[j]? = some (.fv u (.int x))) (next : ∀ p, u = .pointer (some p) → Run P n c k Q e M (.pts p (.int .i64 x) :: D)) : Run P n c k Q e M D :=
 vA (α := Addr) (fun p => u = .pointer (some p)) (fun p => [.pts p (.int .i64 x)]) (fun w ok h => by
  obtain ⟨p, h1, h3⟩ : FvP w ok (.int x) u := dget h j hj
  exact ⟨p, h1, all1 h3⟩) (fun x hx => next x hx)
theorem run_sbS (j : Nat) {u : Value} {q : Nat} (hj : D[j]? = some (.fv u (.sbS q))) (next : ∀ b, u = ptr b → Run P n c k Q e M (.dblk b [ptr q, .pointer none] 185 :: D)) : Run P n c k Q e M D :=
 vA (α := Nat) (fun b => u = ptr b) (fun b => [.dblk b [ptr q, .pointer none] 185]) (fun w ok h => by
  obtain ⟨b, h1, h3⟩ : FvP w ok (.sbS q) u := dget h j hj
  exact ⟨b, h1, all1 h3⟩) (fun x hx => next x hx)
theorem run_itS (j : Nat) {u : Value} {q : Nat} (hj : D[j]? = some (.fv u (.itS q))) (next : ∀ b, u = ptr b → Run P n c k Q e M (.dblk b [ptr q, .pointer none] 187 :: D)) : Run P n c k Q e M D :=
 vA (α := Nat) (fun b => u = ptr b) (fun b => [.dblk b [ptr q, .pointer none] 187]) (fun w ok h => by
  obtain ⟨b, h1, h3⟩ : FvP w ok (.itS q) u := dget h j hj
  exact ⟨b, h1, all1 h3⟩) (fun x hx => next x hx)
theorem run_sbB (j : Nat) {u : Value} {x : Bool} (hj : D[j]? = some (.fv u (.sbB x))) (next : ∀ b p, u = ptr b → Run P n c k Q e M (.dblk b [.pointer none, .pointer (some p)] 185 :: .pts p (.bool x) :: D)) : Run P n c k Q e M D :=
 vA (α := Nat × Addr) (fun y => u = ptr y.1) (fun y => [.dblk y.1 [.pointer none, .pointer (some y.2)] 185, .pts y.2 (.bool x)]) (fun w ok h => by
  obtain ⟨b, p, h1, h3, h4⟩ : FvP w ok (.sbB x) u := dget h j hj
  exact ⟨(b, p), h1, allc h3 (all1 h4)⟩) (fun x hx => next x.1 x.2 hx)
theorem run_itL (j : Nat) {u : Value} {bs : List Nat} (hj : D[j]? = some (.fv u (.itL bs))) (next : ∀ b p sl, u = ptr b → Run P n c k Q e M (.dblk b [.pointer none, .pointer (some p)] 187 :: .pts p sl :: .rowp sl bs :: D)) : Run P n c k Q e M D :=
 vA (α := Nat × Addr × Value) (fun x => u = ptr x.1) (fun x => [.dblk x.1 [.pointer none, .pointer (some x.2.1)] 187, .pts x.2.1 x.2.2, .rowp x.2.2 bs]) (fun w ok h => by
  obtain ⟨b, p, sl, h1, h3, h4, h5⟩ : FvP w ok (.itL bs) u := dget h j hj
  exact ⟨(b, p, sl), h1, allc h3 (allc h4 (all1 h5))⟩) (fun x hx => next x.1 x.2.1 x.2.2 hx)
theorem run_list (j : Nat) {u : Value} {bs : List Nat} (hj : D[j]? = some (.fv u (.list bs))) (next : ∀ p sl, u = .pointer (some p) → Run P n c k Q e M (.pts p sl :: .rowp sl bs :: D)) : Run P n c k Q e M D :=
 vA (α := Addr × Value) (fun x => u = .pointer (some x.1)) (fun x => [.pts x.1 x.2, .rowp x.2 bs]) (fun w ok h => by
  obtain ⟨p, sl, h1, h4, h5⟩ : FvP w ok (.list bs) u := dget h j hj
  exact ⟨(p, sl), h1, allc h4 (all1 h5)⟩) (fun x hx => next x.1 x.2 hx)
theorem run_texts (j : Nat) {u : Value} {bs : List ByteArray} (hj : D[j]? = some (.fv u (.texts bs))) (next : ∀ p sl, u = .pointer (some p) → Run P n c k Q e M (.pts p sl :: .strs sl bs :: D)) : Run P n c k Q e M D :=
 vA (α := Addr × Value) (fun x => u = .pointer (some x.1)) (fun x => [.pts x.1 x.2, .strs x.2 bs]) (fun w ok h => by
  obtain ⟨p, sl, h1, h4, h5⟩ : FvP w ok (.texts bs) u := dget h j hj
  exact ⟨(p, sl), h1, allc h4 (all1 h5)⟩) (fun x hx => next x.1 x.2 hx)
theorem run_named (j : Nat) {u : Value} {bs : List (ByteArray × Nat)} (hj : D[j]? = some (.fv u (.named bs))) (next : ∀ p sl nbs, u = .pointer (some p) → Run P n c k Q e M (.pts p sl :: .rowp sl nbs :: .nam nbs bs :: D)) : Run P n c k Q e M D :=
 vA (α := Addr × Value × List Nat) (fun x => u = .pointer (some x.1)) (fun x => [.pts x.1 x.2.1, .rowp x.2.1 x.2.2, .nam x.2.2 bs]) (fun w ok h => by
  obtain ⟨p, sl, nbs, h1, h4, h5, h6, h7⟩ : FvP w ok (.named bs) u := dget h j hj
  exact ⟨(p, sl, nbs), h1, allc h4 (allc h5 (all1 ⟨h6, h7⟩))⟩) (fun x hx => next x.1 x.2.1 x.2.2 hx)
theorem run_deps (j : Nat) {u : Value} {bs : List (ByteArray × List ByteArray)} (hj : D[j]? = some (.fv u (.deps bs))) (next : ∀ p sl nbs, u = .pointer (some p) → Run P n c k Q e M (.pts p sl :: .rowp sl nbs :: .dep nbs bs :: D)) : Run P n c k Q e M D :=
 vA (α := Addr × Value × List Nat) (fun x => u = .pointer (some x.1)) (fun x => [.pts x.1 x.2.1, .rowp x.2.1 x.2.2, .dep x.2.2 bs]) (fun w ok h => by
  obtain ⟨p, sl, nbs, h1, h4, h5, h6, h7⟩ : FvP w ok (.deps bs) u := dget h j hj
  exact ⟨(p, sl, nbs), h1, allc h4 (allc h5 (all1 ⟨h6, h7⟩))⟩) (fun x hx => next x.1 x.2.1 x.2.2 hx)
end rules
def frac6 : Nat → ByteArray
  | 0 => ⟨#[46, 48, 48, 48, 48, 48, 48]⟩
  | 1 => ⟨#[46, 50, 53, 48, 48, 48, 48]⟩
  | 2 => ⟨#[46, 53, 48, 48, 48, 48, 48]⟩
  | _ => ⟨#[46, 55, 53, 48, 48, 48, 48]⟩
def quartF (n : Int) : ByteArray := (if decide (n < 0) then ⟨#[45]⟩ else ⟨#[]⟩) ++ itoaB ((n.natAbs / 4 : Nat) : Int) ++ frac6 (n.natAbs % 4)
def ItemR (R : V → Y → Prop) (sh : Int) (x : V) (z : Y) : Prop :=
 (sh = 1 ∧ z = scal tStr x.text) ∨ (sh = 2 ∧ z = scal tBool (fbB (decide (x.num = 1)))) ∨ (sh = 3 ∧ x.kind = 2 ∧ z = scal tInt (itoaB x.num)) ∨ (sh = 3 ∧ x.kind = 6 ∧ z = scal tFloat (quartF x.num)) ∨
 (sh = 4 ∧ z = scal tInt (itoaB x.num)) ∨ (sh = 5 ∧ R x z) ∨ (sh = 6 ∧ x.kind = 1 ∧ z = scal tBool (fbB (decide (x.num = 1)))) ∨ (sh = 6 ∧ x.kind = 5 ∧ R x z) ∨
 (sh = 7 ∧ x.kind = 5 ∧ R x z) ∨ (sh = 7 ∧ x.kind = 4 ∧ ∃ zs, z = RKids 2 zs ∧ All2 (fun z x => R x z) zs x.items) ∨ (sh = 8 ∧ z = RKids 2 ((x.items.map V.text).map (scal tStr))) ∨
 (sh = 9 ∧ ∃ (ps : List (ByteArray × V)) (L : List (ByteArray × Y)), z = RKids 4 (L.flatMap prY) ∧ ps.Perm (x.keys.zip x.items) ∧ All2 (fun q p => q.1 = p.1 ∧ R p.2 q.2) L ps) ∨
 (sh = 10 ∧ ∃ ps : List (ByteArray × V), ps.Perm (x.keys.zip x.items) ∧ z = RKids 4 ((ps.map fun p => (p.1, RKids 2 ((p.2.items.map V.text).map (scal tStr)))).flatMap prY)) ∨
 (sh = 11 ∧ z = RKids 2 ((x.items.map evOf).map evY)) ∨ (sh = 12 ∧ x.kind = 3 ∧ z = scal tStr x.text) ∨ (sh = 12 ∧ x.kind = 4 ∧ z = RKids 2 ((x.items.map V.text).map (scal tStr))) ∨
 (sh = 13 ∧ ∃ zs, z = RKids 2 zs ∧ All2 (fun z x => R x z) zs x.items)
theorem ItemR.mono {R R' : V → Y → Prop} {sh : Int} {x : V} {z : Y} (h : ∀ x' z', SizeOf.sizeOf x' ≤ SizeOf.sizeOf x → R x' z' → R' x' z') (hi : ItemR R sh x z) : ItemR R' sh x z := by
 have hit : ∀ x' z', x' ∈ x.items → R x' z' → R' x' z' := fun x' z' hx => h x' z' (Nat.le_of_lt (yE hx))
 unfold ItemR at hi ⊢
 rcases hi with h1 | h1 | h1 | h1 | h1 | h1 | h1 | h1 | h1 | h1 | h1 | h1 | h1 | h1 | h1 | h1 | h1
 ·exact .inl h1
 ·exact .inr (.inl h1)
 ·exact .inr (.inr (.inl h1))
 ·exact .inr (.inr (.inr (.inl h1)))
 ·exact .inr (.inr (.inr (.inr (.inl h1))))
 ·exact .inr (.inr (.inr (.inr (.inr (.inl ⟨h1.1, h _ _ (Nat.le_refl _) h1.2⟩)))))
 ·exact .inr (.inr (.inr (.inr (.inr (.inr (.inl h1))))))
 ·exact .inr (.inr (.inr (.inr (.inr (.inr (.inr (.inl ⟨h1.1, h1.2.1, h _ _ (Nat.le_refl _) h1.2.2⟩)))))))
 ·exact .inr (.inr (.inr (.inr (.inr (.inr (.inr (.inr (.inl ⟨h1.1, h1.2.1, h _ _ (Nat.le_refl _) h1.2.2⟩))))))))
 ·obtain ⟨a, b, zs, e, hz⟩ := h1
  exact .inr (.inr (.inr (.inr (.inr (.inr (.inr (.inr (.inr (.inl ⟨a, b, zs, e, hz.mono fun z x hx hr => hit x z hx hr⟩)))))))))
 ·exact .inr (.inr (.inr (.inr (.inr (.inr (.inr (.inr (.inr (.inr (.inl h1))))))))))
 ·obtain ⟨a, ps, L, e, hp, hz⟩ := h1
  exact .inr (.inr (.inr (.inr (.inr (.inr (.inr (.inr (.inr (.inr (.inr (.inl ⟨a, ps, L, e, hp, hz.mono fun q p hx hr => ⟨hr.1, hit p.2 q.2 (List.of_mem_zip (hp.mem_iff.1 hx)).2 hr.2⟩⟩)))))))))))
 ·exact .inr (.inr (.inr (.inr (.inr (.inr (.inr (.inr (.inr (.inr (.inr (.inr (.inl h1))))))))))))
 ·exact .inr (.inr (.inr (.inr (.inr (.inr (.inr (.inr (.inr (.inr (.inr (.inr (.inr (.inl h1)))))))))))))
 ·exact .inr (.inr (.inr (.inr (.inr (.inr (.inr (.inr (.inr (.inr (.inr (.inr (.inr (.inr (.inl h1))))))))))))))
 ·exact .inr (.inr (.inr (.inr (.inr (.inr (.inr (.inr (.inr (.inr (.inr (.inr (.inr (.inr (.inr (.inl h1)))))))))))))))
 ·obtain ⟨a, zs, e, hz⟩ := h1
  exact .inr (.inr (.inr (.inr (.inr (.inr (.inr (.inr (.inr (.inr (.inr (.inr (.inr (.inr (.inr (.inr ⟨a, zs, e, hz.mono fun z x hx hr => hit x z hx hr⟩)))))))))))))))
instance : Inhabited (Y → Prop) := ⟨fun _ => True⟩
def OutB (r : V → Y → Prop) (v : V) (y : Y) : Prop := ∃ L : List (ByteArray × Y), y = RKids 4 (L.flatMap prY) ∧ (L.map fun p => kwIdx p.1).Nodup ∧ (∀ p ∈ L, kwIdx p.1 ≠ 0 ∧ kwIdx p.1 ≠ 35 ∧ ∃ x, getV v p.1 = some x ∧ ItemR r (shIdx (kwIdx p.1)) x p.2) ∧
 ∀ key x, getV v key = some x → kwIdx key ≠ 0 → kwIdx key ≠ 35 → ∃ p ∈ L, p.1 = key
theorem OutB.mono {r r' : V → Y → Prop} {v : V} {y : Y} (h : ∀ x z, SizeOf.sizeOf x < SizeOf.sizeOf v → r x z → r' x z) (ho : OutB r v y) : OutB r' v y := by
 obtain ⟨L, h1, h2, h3, h4⟩ := ho
 refine ⟨L, h1, h2, fun p hp => ?_, h4⟩
 obtain ⟨a, b, x, hx, hi⟩ := h3 p hp
 exact ⟨a, b, x, hx, hi.mono fun x' z' hs => h x' z' (Nat.lt_of_le_of_lt hs (yE (rZ hx)))⟩
noncomputable def OutR : V → Y → Prop := V.fix (α := Y → Prop) (fun v r y => OutB r v y)
theorem outR_iff (v : V) (y : Y) : OutR v y ↔ OutB OutR v y := by
 have := V.fix_eq (α := Y → Prop) (G := fun v r y => OutB r v y) (fun t g g' h => by
  funext y
  apply propext
  exact ⟨OutB.mono fun x z hx hr => by rw [← h x hx]; exact hr, OutB.mono fun x z hx hr => by rw [h x hx]; exact hr⟩) v
 show V.fix (α := Y → Prop) _ v y ↔ _
 rw [this]
 rfl
def C105 (ft : DA) (mb : Nat) (G : Gr) (v : V) : Prop := ∀ b, Unf G v b → CtR Tryz.prog 105 #[ptr b] [.gr mb G, .tab, ft] (fun u D' => ∃ y, OutR v y ∧ RN y u D')
def NumW (ft : DA) : Prop := ∀ n : Int, -1000000000 < n → n < 1000000000 → n.tmod 4 ≠ 0 → CtR Tryz.prog 188 #[.float .f64 (quartBits n)] [ft] (RN (scal tFloat (quartF n)))
def DA.ev (e : EV) (u v : Value) : DA := ⟨fun w ok => EvP w ok e u v, fun h1 h2 h => EvP.mono h1 h2 h⟩
section rules
variable {P : Program} {n : Nat} {F : List Nat} {c : Ctx F} {ops : Array Oper} {d : Nat} {T : TypeId} {l : List Oper} {k : List KI} {Q : Post} {e : Env} {M : List HA} {D : List DA}
theorem run_rowp (j : Nat) {v : Value} {bs : List Nat} (hj : D[j]? = some (.rowp v bs)) (next : ∀ A c', v = .slice A bs.length c' → bs.length ≤ c' → c' ≤ maxLen → Run P n c k Q e M D) : Run P n c k Q e M D := by
 intro a w hf
 obtain ⟨A, c', h1, h2, h3, _⟩ : RowPtrs w (c.now M w) v bs := hf.toFitsW.dt hj
 exact next A c' h1 h2 h3 a w hf
theorem op_idxRowp (j : Nat) {x y : Operand} {A : Option Addr} {m cap i : Nat} {kd : IntKind} {S E sz by_ : Nat} {bs : List Nat} (hS : SliceOf P S E sz by_) (hd : Nat.blt d n = true) (hx : ev e x = some (.slice A m cap)) (hy : ev e y = some (.int kd (i : Nat))) (hj : D[j]? = some (.rowp (.slice A m cap) bs)) (hi : i < m)
  (next : RunOps P n c ops l k Q ((d, .pointer (some (At A (i * sz)))) :: e) M D) : RunOp P n c ops (some d) (.indexAddr S x y) T l k Q e M D := by
 intro a w hf
 obtain ⟨A', c', hv, _, _, hit⟩ : RowPtrs w (c.now M w) (.slice A m cap) bs := hf.toFitsW.dt hj
 injection hv with hA hm
 subst hA
 subst hm
 obtain ⟨a', ha, _⟩ := hit i bs[i] (List.getElem?_eq_getElem hi)
 subst ha
 exact xV (T := T) hS hd hx hy hi next a w hf
theorem rowp_cell {w : World} (h : FitsW c M D w) {j i b : Nat} {A : Option Addr} {m cap : Nat} {bs : List Nat} (hj : D[j]? = some (.rowp (.slice A m cap) bs)) (hb : bs[i]? = some b) : w.cell? (At A (i * 1)) = some (ptr b) := by
 obtain ⟨A', c', hv, _, _, hit⟩ : RowPtrs w (c.now M w) (.slice A m cap) bs := h.dt hj
 injection hv with hA hm
 subst hA
 obtain ⟨a, ha, _, hc⟩ := hit i b hb
 subst ha
 rw [Nat.mul_one]
 exact hc
theorem ops_nam (j i : Nat) {nbs : List Nat} {l' : List (ByteArray × Nat)} {q : ByteArray × Nat} {nb : Nat} (hj : D[j]? = some (.nam nbs l')) (hq : l'[i]? = some q) (hn : nbs[i]? = some nb) (next : q.1.size ≤ maxLen → RunOps P n c ops l k Q e M (.dblk nb [.string q.1, ptr q.2] 179 :: D)) : RunOps P n c ops l k Q e M D :=
 ops_open (fun w ok h => ((dget h j hj : (DA.nam nbs l').p w ok).2 i q nb hq hn).1) fun h1 => ops_more _ (fun w ok h => ((dget h j hj : (DA.nam nbs l').p w ok).2 i q nb hq hn).2) (next h1)
theorem run_namLen (j : Nat) {nbs : List Nat} {l' : List (ByteArray × Nat)} (hj : D[j]? = some (.nam nbs l')) (next : nbs.length = l'.length → Run P n c k Q e M D) : Run P n c k Q e M D :=
 sN (fun w ok h => (dget h j hj : (DA.nam nbs l').p w ok).1) next
theorem run_depLen (j : Nat) {nbs : List Nat} {l' : List (ByteArray × List ByteArray)} (hj : D[j]? = some (.dep nbs l')) (next : nbs.length = l'.length → Run P n c k Q e M D) : Run P n c k Q e M D :=
 sN (fun w ok h => (dget h j hj : (DA.dep nbs l').p w ok).1) next
theorem ops_exp {α : Type} (pr : α → Prop) (DD : α → List DA) (h : ∀ (w : World) (ok : Nat → Prop), (∀ d ∈ D, d.p w ok) → ∃ x, pr x ∧ ∀ d ∈ DD x, d.p w ok) (next : ∀ x, pr x → RunOps P n c ops l k Q e M (DD x ++ D)) : RunOps P n c ops l k Q e M D := by
 intro a w hf
 obtain ⟨x, hx, hd⟩ := h w _ hf.dat
 exact next x hx a w (hf.world (hf.toFitsW.data fun d hd' => (List.mem_append.1 hd').elim (hd d) (hf.dat d)))
theorem ops_dep (j i : Nat) {nbs : List Nat} {l' : List (ByteArray × List ByteArray)} {q : ByteArray × List ByteArray} {nb : Nat} (hj : D[j]? = some (.dep nbs l')) (hq : l'[i]? = some q) (hn : nbs[i]? = some nb)
  (next : ∀ tb p2 sl2, q.1.size ≤ maxLen → RunOps P n c ops l k Q e M (.dblk nb [.string q.1, ptr tb] 192 :: .dblk tb [.pointer none, .pointer (some p2)] 194 :: .pts p2 sl2 :: .strs sl2 q.2 :: D)) : RunOps P n c ops l k Q e M D :=
 ops_exp (α := Nat × Addr × Value) (fun _ => q.1.size ≤ maxLen) (fun x => [.dblk nb [.string q.1, ptr x.1] 192, .dblk x.1 [.pointer none, .pointer (some x.2.1)] 194, .pts x.2.1 x.2.2, .strs x.2.2 q.2]) (fun w ok h => by
  obtain ⟨tb, p2, sl2, h1, h2, h3, h4, h5⟩ := (dget h j hj : (DA.dep nbs l').p w ok).2 i q nb hq hn
  exact ⟨(tb, p2, sl2), h1, allc h2 (allc h3 (allc h4 (all1 h5)))⟩) (fun x hx => next x.1 x.2.1 x.2.2 hx)
theorem run_numI (j : Nat) {u : Value} {x : Int} (hj : D[j]? = some (.fv u (.numI x))) (next : ∀ b p, u = ptr b → Run P n c k Q e M (.dblk b [.pointer (some p), .pointer none] 213 :: .pts p (.int .i64 x) :: D)) : Run P n c k Q e M D :=
 vA (α := Nat × Addr) (fun y => u = ptr y.1) (fun y => [.dblk y.1 [.pointer (some y.2), .pointer none] 213, .pts y.2 (.int .i64 x)]) (fun w ok h => by
  obtain ⟨b, p, h1, h3, h4⟩ : FvP w ok (.numI x) u := dget h j hj
  exact ⟨(b, p), h1, allc h3 (all1 h4)⟩) (fun x hx => next x.1 x.2 hx)
theorem run_numF (j : Nat) {u : Value} {x : Nat} (hj : D[j]? = some (.fv u (.numF x))) (next : ∀ b p, u = ptr b → Run P n c k Q e M (.dblk b [.pointer none, .pointer (some p)] 213 :: .pts p (.float .f64 x) :: D)) : Run P n c k Q e M D :=
 vA (α := Nat × Addr) (fun y => u = ptr y.1) (fun y => [.dblk y.1 [.pointer none, .pointer (some y.2)] 213, .pts y.2 (.float .f64 x)]) (fun w ok h => by
  obtain ⟨b, p, h1, h3, h4⟩ : FvP w ok (.numF x) u := dget h j hj
  exact ⟨(b, p), h1, allc h3 (all1 h4)⟩) (fun x hx => next x.1 x.2 hx)
theorem run_enums (j : Nat) {u : Value} {es : List EV} (hj : D[j]? = some (.fv u (.enums es))) (next : ∀ p A c', u = .pointer (some p) → es.length ≤ c' → c' ≤ maxLen → Run P n c k Q e M (.pts p (.slice A es.length c') :: .evrow A c' es :: D)) : Run P n c k Q e M D :=
 vA (α := Addr × Option Addr × Nat) (fun x => u = .pointer (some x.1) ∧ es.length ≤ x.2.2 ∧ x.2.2 ≤ maxLen) (fun x => [.pts x.1 (.slice x.2.1 es.length x.2.2), .evrow x.2.1 x.2.2 es]) (fun w ok h => by
  obtain ⟨p, A, c', h1, h2, h3, h4, h5⟩ : FvP w ok (.enums es) u := dget h j hj
  exact ⟨(p, A, c'), ⟨h1, h3, h4⟩, allc h2 (all1 ⟨h3, h4, h5⟩)⟩) (fun x hx => next x.1 x.2.1 x.2.2 hx.1 hx.2.1 hx.2.2)
theorem ops_ev (j i : Nat) {A : Option Addr} {c' : Nat} {es : List EV} {x : EV} (hj : D[j]? = some (.evrow A c' es)) (hi : es[i]? = some x) (next : ∀ q q', RunOps P n c ops l k Q e M (.cells A (i * 2) [.pointer q, .pointer q'] :: .ev x (.pointer q) (.pointer q') :: D)) : RunOps P n c ops l k Q e M D :=
  ops_exp (α := Option Addr × Option Addr) (fun _ => True) (fun y => [.cells A (i * 2) [.pointer y.1, .pointer y.2], .ev x (.pointer y.1) (.pointer y.2)]) (fun w ok h => by
    obtain ⟨a, u, u', h1, h2, h3, h4, h5⟩ := (dget h j hj : (DA.evrow A c' es).p w ok).2.2 i x hi
    have hq : ∃ q q', u = .pointer q ∧ u' = .pointer q' := by
      cases x with
      | str s => obtain ⟨p, a, b, _⟩ := h5; exact ⟨_, _, a, b⟩
      | bool s => obtain ⟨p, a, b, _⟩ := h5; exact ⟨_, _, a, b⟩
    obtain ⟨q, q', rfl, rfl⟩ := hq
    refine ⟨(q, q'), trivial, allc ⟨a, h1, h2, fun j u hj => ?_⟩ (all1 h5)⟩
    match j, hj with
    | 0, hj => cases hj; exact h3
    | 1, hj => cases hj; exact h4
    | j + 2, hj => simp at hj) (fun x _ => next x.1 x.2)
theorem op_idxEv (j : Nat) {x y : Operand} {A : Option Addr} {m cap c' i : Nat} {kd : IntKind} {S E sz by_ : Nat} {es : List EV} (hS : SliceOf P S E sz by_) (hd : Nat.blt d n = true) (hx : ev e x = some (.slice A m cap)) (hy : ev e y = some (.int kd (i : Nat))) (hj : D[j]? = some (.evrow A c' es)) (hi : i < m) (hm : m = es.length)
  (next : RunOps P n c ops l k Q ((d, .pointer (some (At A (i * sz)))) :: e) M D) : RunOp P n c ops (some d) (.indexAddr S x y) T l k Q e M D := by
 intro a w hf
 have hit := (hf.toFitsW.dt hj : (DA.evrow A c' es).p w _).2.2
 subst hm
 obtain ⟨a', _, _, ha, _⟩ := hit i es[i] (List.getElem?_eq_getElem hi)
 subst ha
 exact xV (T := T) hS hd hx hy hi next a w hf
theorem op_loadC (j : Nat) {x : Operand} {A : Option Addr} {o : Nat} {vs : List Value} (hT : Aggr P T vs.length) (hd : Nat.blt d n = true) (hx : ev e x = some (.pointer (some (At A o)))) (hj : D[j]? = some (.cells A o vs))
  (next : RunOps P n c ops l k Q ((d, .agg vs.toArray) :: e) M D) {T' : TypeId} : RunOp P n c ops (some d) (.load T x) T' l k Q e M D :=
 op_loadAgg hT hd hx (fun w h j u hj' => by
  obtain ⟨a, rfl, _, hc⟩ := h.dt hj
  have := hc j u hj'
  simp only [At, Option.getD_some, add_add']
  exact this) next
theorem vD (i j q : Nat) {xs : List Value} {L : List (ByteArray × Y)} {b nb : Nat} {key : ByteArray} {y : Y} (hi : D[i]? = some (.ptrs xs (L.flatMap prY))) (hj : D[j]? = some (.node b (scal tStr key))) (hq : D[q]? = some (.node nb y))
  (next : Run P n c k Q e M (.ptrs (xs ++ [ptr b, ptr nb]) ((L ++ [(key, y)]).flatMap prY) :: D)) : Run P n c k Q e M D :=
 zY (.ptrs (xs ++ [ptr b, ptr nb]) ((L ++ [(key, y)]).flatMap prY)) (fun w ok h => by
  have h1 : PtrsP w ok _ _ := PtrsP.snoc (dget h q hq) (PtrsP.snoc (dget h j hj) (dget h i hi))
  have e1 : (L ++ [(key, y)]).flatMap prY = L.flatMap prY ++ [scal tStr key] ++ [y] := by simp [prY]
  rw [show (DA.ptrs (xs ++ [ptr b, ptr nb]) ((L ++ [(key, y)]).flatMap prY)).p w ok = PtrsP w ok (xs ++ [ptr b, ptr nb]) ((L ++ [(key, y)]).flatMap prY) from rfl, e1]
  simpa using h1) next
end rules
theorem inf139 : Tryz.prog.info? 139 = some Tryz.t139 := zL Tryz.typeInfo139
theorem sc139 : Scalar Tryz.prog 139 := ⟨_, Tryz.t139, Tryz.underlying139, (by intro _ h; cases h), (by intro _ _ h; cases h), inf139, rfl⟩
theorem si139 : ∃ i, Tryz.prog.info? 139 = some i ∧ i.size = 1 := ⟨_, inf139, rfl⟩
theorem ze139 : Zero Tryz.prog 139 (match Tryz.t139.zero with | some z => z.cells.toList | none => []) := ⟨Tryz.t139, _, inf139, rfl, rfl⟩
theorem sl139 : SliceOf Tryz.prog 139 3 1 8 := ⟨Tryz.t3, _, Tryz.underlying139, zL Tryz.typeInfo3, rfl, rfl, rfl, rfl, by decide⟩
theorem sl142 : SliceOf Tryz.prog 142 5 1 1 := ⟨Tryz.t5, _, Tryz.underlying142, zL Tryz.typeInfo5, rfl, rfl, rfl, rfl, by decide⟩
theorem inf189 : Tryz.prog.info? 189 = some Tryz.t189 := zL Tryz.typeInfo189
theorem sc189 : Scalar Tryz.prog 189 := ⟨_, Tryz.t189, Tryz.underlying189, (by intro _ h; cases h), (by intro _ _ h; cases h), inf189, rfl⟩
theorem inf206 : Tryz.prog.info? 206 = some Tryz.t206 := zL Tryz.typeInfo206
theorem sc206 : Scalar Tryz.prog 206 := ⟨_, Tryz.t206, Tryz.underlying206, (by intro _ h; cases h), (by intro _ _ h; cases h), inf206, rfl⟩
theorem inf235 : Tryz.prog.info? 235 = some Tryz.t235 := zL Tryz.typeInfo235
theorem sc235 : Scalar Tryz.prog 235 := ⟨_, Tryz.t235, Tryz.underlying235, (by intro _ h; cases h), (by intro _ _ h; cases h), inf235, rfl⟩
theorem si235 : ∃ i, Tryz.prog.info? 235 = some i ∧ i.size = 1 := ⟨_, inf235, rfl⟩
theorem inf246 : Tryz.prog.info? 246 = some Tryz.t246 := zL Tryz.typeInfo246
theorem ze246 : Zero Tryz.prog 246 (match Tryz.t246.zero with | some z => z.cells.toList | none => []) := ⟨Tryz.t246, _, inf246, rfl, rfl⟩
theorem fo305_0 : FieldOff Tryz.prog 305 0 0 := ⟨_, _, Tryz.t206, 0, Tryz.underlying305, rfl, rfl, zL Tryz.typeInfo206, rfl⟩
theorem inf349 : Tryz.prog.info? 349 = some Tryz.t349 := zL Tryz.typeInfo349
theorem sc349 : Scalar Tryz.prog 349 := ⟨_, Tryz.t349, Tryz.underlying349, (by intro _ h; cases h), (by intro _ _ h; cases h), inf349, rfl⟩
theorem sl349 : SliceOf Tryz.prog 349 214 1 8 := ⟨Tryz.t214, _, Tryz.underlying349, zL Tryz.typeInfo214, rfl, rfl, rfl, rfl, by decide⟩
end Go.Jw

namespace Go.Jw
open Go Go.RowKit Go.Proofs
set_option maxRecDepth 8000
theorem fun152 : Fun Tryz.prog 152 := ⟨_, Tryz.func152, by kernel_rfl, rfl⟩
theorem c152 (s : ByteArray) (hs : s.size ≤ maxLen) : CtV Tryz.prog 152 #[.string s, .string ⟨#[35]⟩] [] (.string ⟨(Lib.trimSuffix s.data.toList [35]).toArray⟩) :=
  pF fun152 fun w ok h => (Tryz.strings_TrimSuffix s ⟨#[35]⟩ w (by unfold maxLen at hs; omega)).mono (by
    rintro e w' ⟨rfl, rfl⟩
    exact ⟨rfl, Chg.refl _ _⟩)
theorem c157b (u : Value) (x : Bool) : CtR Tryz.prog 157 #[u] [.fv u (.sbB x)] (RN (scal tBool (fbB x))) := by
 refine Ct.of_run (args := [u]) Tryz.func157 (by kernel_rfl) rfl Tryz.ntmps157 rfl (fun c => ?_)
 refine run_sbB 0 rfl (fun b p hu => ?_)
 subst hu
 refine rO 12 rfl (zB fo185_0 rfl rfl ?_)
 refine zA (zF 0 sc63 rfl rfl rfl rfl ?_)
 refine zA (xH pn63 rfl rfl ?_)
 refine oO 9 rfl (zB fo185_1 rfl rfl ?_)
 refine zA (zF 0 sc112 rfl rfl rfl rfl ?_)
 refine zA (xH pn112 rfl rfl ?_)
 refine oK 1 [17, 0] rfl rfl (rO 8 rfl ?_)
 refine zB fo185_1 rfl rfl (zA ?_)
 refine zF 0 sc112 rfl rfl rfl rfl (oO 3 rfl ?_)
 refine xC 1 sc4 rfl rfl rfl (zA ?_)
 refine zR rfl rfl rfl (c153 x) sub0 (fun u24 D24 hv24 => ?_)
 obtain ⟨b24, rfl, rfl⟩ := hv24
 exact oK 3 [2] rfl rfl (zC Tryz.results157 rfl ⟨rfl, b24, rfl, rfl⟩ nS (sub1 0 rfl))
theorem c157s (ft : DA) (mb : Nat) (G : Gr) (u : Value) (q : Nat) (v : V) (hU : Unf G v q) (H : C105 ft mb G v) : CtR Tryz.prog 157 #[u] [.fv u (.sbS q), .gr mb G, .tab, ft] (fun u D' => ∃ y, OutR v y ∧ RN y u D') := by
 refine Ct.of_run (args := [u]) Tryz.func157 (by kernel_rfl) rfl Tryz.ntmps157 rfl (fun c => ?_)
 refine run_sbS 0 rfl (fun b hu => ?_)
 subst hu
 refine rO 12 rfl (zB fo185_0 rfl rfl ?_)
 refine zA (zF 0 sc63 rfl rfl rfl rfl ?_)
 refine zA (xH pn63 rfl rfl ?_)
 refine oO 9 rfl (zB fo185_0 rfl rfl ?_)
 refine zA (zF 0 sc63 rfl rfl rfl rfl ?_)
 refine zA (zR rfl rfl rfl (H q hU) (subc 2 rfl (sub2 3 4 rfl rfl)) (fun u12 D12 hv12 => ?_))
 obtain ⟨y12, hy12, b12, rfl, rfl⟩ := hv12
 exact oK 3 [2] rfl rfl (zC Tryz.results157 rfl ⟨rfl, y12, hy12, b12, rfl, rfl⟩ nS (sub1 0 rfl))
theorem c163 (ft : DA) (mb : Nat) (G : Gr) (x : Value) (bs : List Nat) (xs : List V) (hl : xs.length ≤ 400000) (hb : All2 (fun b z => Unf G z b) bs xs) (H : ∀ z ∈ xs, C105 ft mb G z) : CtR Tryz.prog 163 #[x] [.rowp x bs, .gr mb G, .tab, ft] (fun u D' => ∃ zs, All2 (fun z x => OutR x z) zs xs ∧ RN (RKids 2 zs) u D') := by
 refine Ct.of_run (args := [x]) Tryz.func163 (by kernel_rfl) rfl Tryz.ntmps163 rfl (fun c => ?_)
 refine run_rowp 0 rfl (fun A1 c1 hx hk1 hk2 => ?_)
 subst hx
 unfold maxLen at hk2
 have hbl := hb.1
 refine rO 8 rfl (xD sl148 rfl rfl rfl (fun b6 => ?_))
 refine oO 9 rfl (zZ sl137 rfl rfl ?_)
 refine oK 4 [9, 3, 8, 7] rfl rfl (rW ?_)
 refine yS 2 (fun (⟨i, A, ca, xs1, zs⟩ : Nat × Option Addr × Nat × List Value × List Y) => i ≤ bs.length ∧ All2 (fun z x => OutR x z) zs (xs.take i)) (fun (⟨i, A, ca, xs1, zs⟩ : Nat × Option Addr × Nat × List Value × List Y) => [(9, .int .i64 ((i : Nat) : Int)), (3, .slice A i ca)]) (fun (⟨i, A, ca, xs1, zs⟩ : Nat × Option Addr × Nat × List Value × List Y) => HA.row A i ca 102 1 xs1 :: []) (fun (⟨i, A, ca, xs1, zs⟩ : Nat × Option Addr × Nat × List Value × List Y) => .ptrs xs1 zs :: .rowp (.slice A1 bs.length c1) bs :: .gr mb G :: .tab :: ft :: []) (fun (⟨i, A, ca, xs1, zs⟩ : Nat × Option Addr × Nat × List Value × List Y) => bs.length - i) (0, _, _, [], []) (⟨by show 0 ≤ _; omega, All2.nil _⟩) (eC rfl (eC rfl (eN _))) rfl rfl ?_ (eC rfl (eC rfl (eN _)))
 intro ⟨i, A, ca, xs1, zs⟩ hI K hK
 change Run _ _ _ _ _ [(9, _), (3, _), (8, _), (7, _)] [_] [_, _, _, _, _]
 obtain ⟨hi, hall⟩ := hI
 refine rO 3 rfl (yT rfl rfl rfl ?_)
 refine oR 2 rfl (zM rfl (fun h10 => ?_) (fun h10 => ?_))
 ·refine rO 6 rfl (op_idxRowp 1 sl137 rfl rfl rfl rfl h10 ?_)
  have hlt : i < bs.length := h10
  have hlx : i < xs.length := by omega
  refine zA (yN sc63 rfl rfl (fun _ h => rowp_cell h (j := 1) rfl (List.getElem?_eq_getElem hlt)) ?_)
  refine oO 9 rfl (zR rfl rfl rfl (H _ (List.getElem_mem hlx) _ (hb.2 i _ _ (List.getElem?_eq_getElem hlt) (List.getElem?_eq_getElem hlx))) (subc 2 rfl (sub2 3 4 rfl rfl)) (fun u15 D15 hv15 => ?_))
  obtain ⟨y15, hy15, b15, rfl, rfl⟩ := hv15
  refine zA (zK sl148 rfl rfl rfl rfl rfl (fun b16 => ?_))
  refine zA ?_
  refine op_apd 1 0 sl148 (fun A17 c17 => ?_)
  refine oK 3 [3, 9, 8, 7] rfl rfl (rO 3 rfl ?_)
  refine yL rfl rfl (by omega) (oR 3 rfl ?_)
  refine wU 1 0 rfl rfl ?_
  exact kQ (hK (i + 1, _, _, _, zs ++ [y15]) (⟨by show i + 1 ≤ _; omega, sF hlx hall hy15⟩) (by show bs.length - (i + 1) < bs.length - i; omega)) (eC rfl (eC rfl (eC rfl (eC rfl (eN _))))) (hD := (subc 0 rfl sQ))
 obtain rfl : i = bs.length := by omega
 rw [hb.1, List.take_length] at hall
 refine vZ 0 0 _ rfl rfl (by intro b h; cases h) (rO 6 rfl ?_)
 refine zR rfl rfl rfl (c185 _ _ _ _) (sub1 0 rfl) (fun u20 D20 hv20 => ?_)
 obtain ⟨b20, rfl, rfl⟩ := hv20
 exact oR 3 rfl (zC Tryz.results163 rfl ⟨rfl, zs, hall, b20, rfl, rfl⟩ nS (sub1 0 rfl))
theorem c155s (ft : DA) (mb : Nat) (G : Gr) (u : Value) (q : Nat) (v : V) (hU : Unf G v q) (H : C105 ft mb G v) : CtR Tryz.prog 155 #[u] [.fv u (.itS q), .gr mb G, .tab, ft] (fun u D' => ∃ y, OutR v y ∧ RN y u D') := by
 refine Ct.of_run (args := [u]) Tryz.func155 (by kernel_rfl) rfl Tryz.ntmps155 rfl (fun c => ?_)
 refine run_itS 0 rfl (fun b hu => ?_)
 subst hu
 refine rO 12 rfl (zB fo187_0 rfl rfl ?_)
 refine zA (zF 0 sc63 rfl rfl rfl rfl ?_)
 refine zA (xH pn63 rfl rfl ?_)
 refine oO 9 rfl (zB fo187_0 rfl rfl ?_)
 refine zA (zF 0 sc63 rfl rfl rfl rfl ?_)
 refine zA (zR rfl rfl rfl (H q hU) (subc 2 rfl (sub2 3 4 rfl rfl)) (fun u12 D12 hv12 => ?_))
 obtain ⟨y12, hy12, b12, rfl, rfl⟩ := hv12
 exact oK 3 [2] rfl rfl (zC Tryz.results155 rfl ⟨rfl, y12, hy12, b12, rfl, rfl⟩ nS (sub1 0 rfl))
theorem c155l (ft : DA) (mb : Nat) (G : Gr) (u : Value) (bs : List Nat) (xs : List V) (hl : xs.length ≤ 400000) (hb : All2 (fun b z => Unf G z b) bs xs) (H : ∀ z ∈ xs, C105 ft mb G z) : CtR Tryz.prog 155 #[u] [.fv u (.itL bs), .gr mb G, .tab, ft] (fun u D' => ∃ zs, All2 (fun z x => OutR x z) zs xs ∧ RN (RKids 2 zs) u D') := by
 refine Ct.of_run (args := [u]) Tryz.func155 (by kernel_rfl) rfl Tryz.ntmps155 rfl (fun c => ?_)
 refine run_itL 0 rfl (fun b p sl hu => ?_)
 subst hu
 refine rO 12 rfl (zB fo187_0 rfl rfl ?_)
 refine zA (zF 0 sc63 rfl rfl rfl rfl ?_)
 refine zA (xH pn63 rfl rfl ?_)
 refine oO 9 rfl (zB fo187_1 rfl rfl ?_)
 refine zA (zF 0 sc122 rfl rfl rfl rfl ?_)
 refine zA (xH pn122 rfl rfl ?_)
 refine oK 1 [17, 0] rfl rfl (rO 8 rfl ?_)
 refine zB fo187_1 rfl rfl (zA ?_)
 refine zF 0 sc122 rfl rfl rfl rfl (oO 3 rfl ?_)
 refine xC 1 sc137 rfl rfl rfl (zA ?_)
 refine zR rfl rfl rfl (c163 ft mb G sl bs xs hl hb H) (subc 2 rfl (subc 4 rfl (sub2 5 6 rfl rfl))) (fun u24 D24 hv24 => ?_)
 obtain ⟨zs, hz, b24, rfl, rfl⟩ := hv24
 exact oK 3 [2] rfl rfl (zC Tryz.results155 rfl ⟨rfl, zs, hz, b24, rfl, rfl⟩ nS (sub1 0 rfl))
theorem c158 (ft : DA) (mb : Nat) (G : Gr) (x : Value) (l : List (ByteArray × Nat)) (ps : List (ByteArray × V)) (hl : ps.length ≤ 400000) (hb : All2 (URel G) l ps) (H : ∀ p ∈ ps, C105 ft mb G p.2) : CtR Tryz.prog 158 #[x] [.fv x (.named l), .gr mb G, .tab, ft] (fun u D' => ∃ L : List (ByteArray × Y), All2 (fun q p => q.1 = p.1 ∧ OutR p.2 q.2) L ps ∧ RN (RKids 4 (L.flatMap prY)) u D') := by
 refine Ct.of_run (args := [x]) Tryz.func158 (by kernel_rfl) rfl Tryz.ntmps158 rfl (fun c => ?_)
 refine run_named 0 rfl (fun p sl nbs hx => ?_)
 subst hx
 refine run_rowp 1 rfl (fun A1 c1 hx hk1 hk2 => ?_)
 subst hx
 refine run_namLen 2 rfl (fun hnl => ?_)
 unfold maxLen at hk2
 have hbl := hb.1
 refine rO 8 rfl (xD sl148 rfl rfl rfl (fun b6 => ?_))
 refine oO 11 rfl (xC 0 sc110 rfl rfl rfl ?_)
 refine zA (zZ sl110 rfl rfl ?_)
 refine oK 4 [11, 3, 10, 9] rfl rfl (rW ?_)
 refine yS 2 (fun (⟨i, m, A, ca, xs1, L⟩ : Nat × Nat × Option Addr × Nat × List Value × List (ByteArray × Y)) => i ≤ nbs.length ∧ m = 2 * i ∧ All2 (fun (q : ByteArray × Y) (p : ByteArray × V) => q.1 = p.1 ∧ OutR p.2 q.2) L (ps.take i)) (fun (⟨i, m, A, ca, xs1, L⟩ : Nat × Nat × Option Addr × Nat × List Value × List (ByteArray × Y)) => [(11, .int .i64 ((i : Nat) : Int)), (3, .slice A m ca)]) (fun (⟨i, m, A, ca, xs1, L⟩ : Nat × Nat × Option Addr × Nat × List Value × List (ByteArray × Y)) => HA.row A m ca 102 1 xs1 :: []) (fun (⟨i, m, A, ca, xs1, L⟩ : Nat × Nat × Option Addr × Nat × List Value × List (ByteArray × Y)) => .ptrs xs1 (L.flatMap prY) :: .pts p (.slice A1 nbs.length c1) :: .rowp (.slice A1 nbs.length c1) nbs :: .nam nbs l :: .fv (.pointer (some p)) (.named l) :: .gr mb G :: .tab :: ft :: []) (fun (⟨i, m, A, ca, xs1, L⟩ : Nat × Nat × Option Addr × Nat × List Value × List (ByteArray × Y)) => nbs.length - i) (0, 0, _, _, [], []) (⟨by show 0 ≤ _; omega, rfl, All2.nil _⟩) (eC rfl (eC rfl (eN _))) rfl rfl ?_ (eC rfl (eC rfl (eN _)))
 intro ⟨i, m, A, ca, xs1, L⟩ hI K hK
 change Run _ _ _ _ _ [(11, _), (3, _), (10, _), (9, _)] [_] [_, _, _, _, _, _, _, _]
 obtain ⟨hi, hm, hall⟩ := hI
 refine rO 3 rfl (yT rfl rfl rfl ?_)
 refine oR 2 rfl (zM rfl (fun h12 => ?_) (fun h12 => ?_))
 ·refine rO 6 rfl (op_idxRowp 2 sl110 rfl rfl rfl rfl h12 ?_)
  have hlt : i < nbs.length := h12
  have hll : i < l.length := by omega
  have hlx : i < ps.length := by omega
  refine ops_nam 3 i rfl (List.getElem?_eq_getElem hll) (List.getElem?_eq_getElem hlt) (fun hks => ?_)
  refine zA (yN sc125 rfl rfl (fun _ h => rowp_cell h (j := 3) rfl (List.getElem?_eq_getElem hlt)) ?_)
  refine oR 3 rfl (yU yG ?_)
  refine zQ (tP 0 rfl wanted0 (zU rfl) ?_)
  refine tP 1 rfl wanted0 (zU rfl) (tP 2 rfl wanted0 (yR rfl) ?_)
  refine tP 3 rfl wanted0 (zX fo179_0 rfl) (tP 5 rfl wanted0 (zU rfl) ?_)
  refine tP 6 rfl wanted0 (yR rfl) (tP 7 rfl wanted0 (zX fo179_1 rfl) ?_)
  refine yD (tM 4 rfl wanted0 (uN 0 sc9 rfl rfl rfl) ?_)
  refine tM 8 rfl wanted0 (uN 0 sc63 rfl rfl rfl) (zN 9 (by decide +kernel) ?_)
  refine zO (I2 := [[4], [3, 2, 1, 0], []]) rfl wanted0 (by decide +kernel) (fun Kd hKd => ?_)
  refine zR rfl rfl rfl (H _ (List.getElem_mem hlx) _ (hb.2 i _ _ (List.getElem?_eq_getElem hll) (List.getElem?_eq_getElem hlx)).2) (subc 6 rfl (sub2 7 8 rfl rfl)) (fun u24 D24 hv24 => ?_)
  obtain ⟨y24, hy24, b24, rfl, rfl⟩ := hv24
  refine hKd _ _ _ (hC (hC (zE (zP)))) (zN 10 (by decide +kernel) ?_)
  refine zO (I2 := [[], [], []]) rfl wanted0 (by decide +kernel) (fun Kd hKd => ?_)
  refine xF 0 rfl rfl rfl (c150 _ _ _ _ _ _ hks (by omega)) rfl sub0 (fun u25 M25 D25 hv25 => ?_)
  obtain ⟨A25, c25, b25, rfl, rfl, rfl⟩ := hv25
  refine hKd _ _ _ (zE (zE (zE (zP)))) (zQ ?_)
  refine tP 11 rfl wanted0 (yY rfl) (yH (by decide +kernel) ?_)
  refine rK 0 [3, 11, 10, 9] rfl rfl (rO 3 rfl ?_)
  refine yL rfl rfl (by omega) (oR 3 rfl ?_)
  refine vD 3 0 1 rfl rfl rfl ?_
  exact kQ (hK (i + 1, _, _, _, _, L ++ [((l[i]'hll).1, y24)]) (⟨by show i + 1 ≤ _; omega, by show m + 2 = 2 * (i + 1); omega, sF hlx hall ⟨(hb.2 i _ _ (List.getElem?_eq_getElem hll) (List.getElem?_eq_getElem hlx)).1, hy24⟩⟩) (by show nbs.length - (i + 1) < nbs.length - i; omega)) (eC rfl (eC rfl (eC rfl (eC rfl (eN _))))) (hD := (subc 0 rfl sQ))
 obtain rfl : i = nbs.length := by omega
 rw [hnl, hb.1, List.take_length] at hall
 refine vZ 0 0 _ rfl rfl (by intro b h; cases h) (rO 6 rfl ?_)
 refine zR rfl rfl rfl (c186 _ _ _ _) (sub1 0 rfl) (fun u28 D28 hv28 => ?_)
 obtain ⟨b28, rfl, rfl⟩ := hv28
 exact oR 3 rfl (zC Tryz.results158 rfl ⟨rfl, L, hall, b28, rfl, rfl⟩ nS (sub1 0 rfl))
theorem c187 (tb : Nat) (p2 : Addr) (sl2 : Value) (l : List ByteArray) (hl : l.length ≤ 1000000) : CtR Tryz.prog 187 #[ptr tb] [.dblk tb [.pointer none, .pointer (some p2)] 194, .pts p2 sl2, .strs sl2 l] (RN (RKids 2 (l.map (scal tStr)))) := by
 refine Ct.of_run (args := [ptr tb]) Tryz.func187 (by kernel_rfl) rfl Tryz.ntmps187 rfl (fun c => ?_)
 refine rO 12 rfl (zB fo194_0 rfl rfl ?_)
 refine zA (zF 0 sc63 rfl rfl rfl rfl ?_)
 refine zA (xH pn63 rfl rfl ?_)
 refine oO 9 rfl (zB fo194_1 rfl rfl ?_)
 refine zA (zF 0 sc117 rfl rfl rfl rfl ?_)
 refine zA (xH pn117 rfl rfl ?_)
 refine oK 1 [17, 0] rfl rfl (rO 8 rfl ?_)
 refine zB fo194_1 rfl rfl (zA ?_)
 refine zF 0 sc117 rfl rfl rfl rfl (oO 3 rfl ?_)
 refine xC 1 sc22 rfl rfl rfl (zA ?_)
 refine zR rfl rfl rfl (c156 _ l hl) (sub1 2 rfl) (fun u24 D24 hv24 => ?_)
 obtain ⟨b24, rfl, rfl⟩ := hv24
 exact oK 3 [2] rfl rfl (zC Tryz.results187 rfl ⟨rfl, b24, rfl, rfl⟩ nS (sub1 0 rfl))
theorem c159 (x : Value) (l : List (ByteArray × List ByteArray)) (hl : l.length ≤ 400000) (hls : ∀ q ∈ l, q.2.length ≤ 1000000) : CtR Tryz.prog 159 #[x] [.fv x (.deps l)] (RN (RKids 4 ((l.map (fun q => (q.1, RKids 2 (q.2.map (scal tStr))))).flatMap prY))) := by
 refine Ct.of_run (args := [x]) Tryz.func159 (by kernel_rfl) rfl Tryz.ntmps159 rfl (fun c => ?_)
 refine run_deps 0 rfl (fun p sl nbs hx => ?_)
 subst hx
 refine run_rowp 1 rfl (fun A1 c1 hx hk1 hk2 => ?_)
 subst hx
 refine run_depLen 2 rfl (fun hnl => ?_)
 unfold maxLen at hk2
 refine rO 8 rfl (xD sl148 rfl rfl rfl (fun b6 => ?_))
 refine oO 11 rfl (xC 0 sc188 rfl rfl rfl ?_)
 refine zA (zZ sl188 rfl rfl ?_)
 refine oK 4 [11, 3, 10, 9] rfl rfl (rW ?_)
 refine yS 2 (fun (⟨i, m, A, ca, xs1⟩ : Nat × Nat × Option Addr × Nat × List Value) => i ≤ nbs.length ∧ m = 2 * i) (fun (⟨i, m, A, ca, xs1⟩ : Nat × Nat × Option Addr × Nat × List Value) => [(11, .int .i64 ((i : Nat) : Int)), (3, .slice A m ca)]) (fun (⟨i, m, A, ca, xs1⟩ : Nat × Nat × Option Addr × Nat × List Value) => HA.row A m ca 102 1 xs1 :: []) (fun (⟨i, m, A, ca, xs1⟩ : Nat × Nat × Option Addr × Nat × List Value) => .ptrs xs1 (((l.take i).map (fun q => (q.1, RKids 2 (q.2.map (scal tStr))))).flatMap prY) :: .pts p (.slice A1 nbs.length c1) :: .rowp (.slice A1 nbs.length c1) nbs :: .dep nbs l :: .fv (.pointer (some p)) (.deps l) :: []) (fun (⟨i, m, A, ca, xs1⟩ : Nat × Nat × Option Addr × Nat × List Value) => nbs.length - i) (0, 0, _, _, []) (⟨by show 0 ≤ _; omega, rfl⟩) (eC rfl (eC rfl (eN _))) rfl rfl ?_ (eC rfl (eC rfl (eN _)))
 intro ⟨i, m, A, ca, xs1⟩ hI K hK
 change Run _ _ _ _ _ [(11, _), (3, _), (10, _), (9, _)] [_] [_, _, _, _, _]
 obtain ⟨hi, hm⟩ := hI
 refine rO 3 rfl (yT rfl rfl rfl ?_)
 refine oR 2 rfl (zM rfl (fun h12 => ?_) (fun h12 => ?_))
 ·refine rO 6 rfl (op_idxRowp 2 sl188 rfl rfl rfl rfl h12 ?_)
  have hlt : i < nbs.length := h12
  have hll : i < l.length := by omega
  refine ops_dep 3 i rfl (List.getElem?_eq_getElem hll) (List.getElem?_eq_getElem hlt) (fun tb p2 sl2 hks => ?_)
  refine zA (yN sc189 rfl rfl (fun _ h => rowp_cell h (j := 6) rfl (List.getElem?_eq_getElem hlt)) ?_)
  refine oR 3 rfl (yU yG ?_)
  refine zQ (tP 0 rfl wanted0 (zU rfl) ?_)
  refine tP 1 rfl wanted0 (zU rfl) (tP 2 rfl wanted0 (yR rfl) ?_)
  refine tP 3 rfl wanted0 (zX fo192_0 rfl) (tP 5 rfl wanted0 (zU rfl) ?_)
  refine tP 6 rfl wanted0 (yR rfl) (tP 7 rfl wanted0 (zX fo192_1 rfl) ?_)
  refine yD (tM 4 rfl wanted0 (uN 0 sc9 rfl rfl rfl) ?_)
  refine tM 8 rfl wanted0 (uN 0 sc190 rfl rfl rfl) (zN 9 (by decide +kernel) ?_)
  refine zO (I2 := [[4], [3, 2, 1, 0], []]) rfl wanted0 (by decide +kernel) (fun Kd hKd => ?_)
  refine zR rfl rfl rfl (c187 _ _ _ _ (hls _ (List.getElem_mem hll))) (subc 1 rfl (sub2 2 3 rfl rfl)) (fun u24 D24 hv24 => ?_)
  obtain ⟨b24, rfl, rfl⟩ := hv24
  refine hKd _ _ _ (hC (hC (zE (zP)))) (zN 10 (by decide +kernel) ?_)
  refine zO (I2 := [[], [], []]) rfl wanted0 (by decide +kernel) (fun Kd hKd => ?_)
  refine xF 0 rfl rfl rfl (c150 _ _ _ _ _ _ hks (by omega)) rfl sub0 (fun u25 M25 D25 hv25 => ?_)
  obtain ⟨A25, c25, b25, rfl, rfl, rfl⟩ := hv25
  refine hKd _ _ _ (zE (zE (zE (zP)))) (zQ ?_)
  refine tP 11 rfl wanted0 (yY rfl) (yH (by decide +kernel) ?_)
  refine rK 0 [3, 11, 10, 9] rfl rfl (rO 3 rfl ?_)
  refine yL rfl rfl (by omega) (oR 3 rfl ?_)
  refine vD 6 0 1 rfl rfl rfl ?_
  rw [uM (f := fun q : ByteArray × List ByteArray => (q.1, RKids 2 (q.2.map (scal tStr)))) hll]
  exact kQ (hK (i + 1, _, _, _, _) (⟨by show i + 1 ≤ _; omega, by show m + 2 = 2 * (i + 1); omega⟩) (by show nbs.length - (i + 1) < nbs.length - i; omega)) (eC rfl (eC rfl (eC rfl (eC rfl (eN _))))) (hD := (subc 0 rfl sQ))
 obtain rfl : i = nbs.length := by omega
 rw [hnl, List.take_length]
 refine vZ 0 0 _ rfl rfl (by intro b h; cases h) (rO 6 rfl ?_)
 refine zR rfl rfl rfl (c186 _ _ _ _) (sub1 0 rfl) (fun u28 D28 hv28 => ?_)
 obtain ⟨b28, rfl, rfl⟩ := hv28
 exact oR 3 rfl (zC Tryz.results159 rfl ⟨rfl, b28, rfl, rfl⟩ nS (sub1 0 rfl))
theorem c160i (u : Value) (n : Int) (h0 : -9223372036854775808 ≤ n) (h1 : n ≤ 9223372036854775807) : CtR Tryz.prog 160 #[u] [.fv u (.numI n), .tab] (RN (scal tInt (itoaB n))) := by
 refine Ct.of_run (args := [u]) Tryz.func160 (by kernel_rfl) rfl Tryz.ntmps160 rfl (fun c => ?_)
 refine run_numI 0 rfl (fun b p hu => ?_)
 subst hu
 refine rO 12 rfl (zB fo213_0 rfl rfl ?_)
 refine zA (zF 0 sc114 rfl rfl rfl rfl ?_)
 refine zA (xH pn114 rfl rfl ?_)
 refine oO 9 rfl (zB fo213_0 rfl rfl ?_)
 refine zA (zF 0 sc114 rfl rfl rfl rfl ?_)
 refine oO 3 rfl (xC 1 sc2 rfl rfl rfl ?_)
 refine zA (zR rfl rfl rfl (c161 n h0 h1) (sub1 3 rfl) (fun u14 D14 hv14 => ?_))
 obtain ⟨b14, rfl, rfl⟩ := hv14
 exact oK 3 [2] rfl rfl (zC Tryz.results160 rfl ⟨rfl, b14, rfl, rfl⟩ nS (sub1 0 rfl))
theorem c160f (ft : DA) (u : Value) (f : Nat) (y : Y) (H : CtR Tryz.prog 188 #[.float .f64 f] [ft] (RN y)) : CtR Tryz.prog 160 #[u] [.fv u (.numF f), ft] (RN y) := by
 refine Ct.of_run (args := [u]) Tryz.func160 (by kernel_rfl) rfl Tryz.ntmps160 rfl (fun c => ?_)
 refine run_numF 0 rfl (fun b p hu => ?_)
 subst hu
 refine rO 12 rfl (zB fo213_0 rfl rfl ?_)
 refine zA (zF 0 sc114 rfl rfl rfl rfl ?_)
 refine zA (xH pn114 rfl rfl ?_)
 refine oO 9 rfl (zB fo213_1 rfl rfl ?_)
 refine zA (zF 0 sc211 rfl rfl rfl rfl ?_)
 refine zA (xH pn211 rfl rfl ?_)
 refine oK 1 [19, 0] rfl rfl (rO 8 rfl ?_)
 refine zB fo213_1 rfl rfl (zA ?_)
 refine zF 0 sc211 rfl rfl rfl rfl (oO 3 rfl ?_)
 refine xC 1 sc214 rfl rfl rfl (zA ?_)
 refine zR rfl rfl rfl (H) (sub1 3 rfl) (fun u26 D26 hv26 => ?_)
 obtain ⟨b26, rfl, rfl⟩ := hv26
 exact oK 3 [2] rfl rfl (zC Tryz.results160 rfl ⟨rfl, b26, rfl, rfl⟩ nS (sub1 0 rfl))
theorem c189s (b : Nat) (p : Addr) (s : ByteArray) (hs : s.size ≤ maxLen) : Ct Tryz.prog 189 #[ptr b] [.blk b [.pointer (some p), .pointer none] 223] [.pts p (.string s)] (fun u M' D' => M' = [] ∧ RN (scal tStr s) u D') := by
 refine Ct.of_run (args := [ptr b]) Tryz.func189 (by kernel_rfl) rfl Tryz.ntmps189 rfl (fun c => ?_)
 refine rO 12 rfl (zB fo223_0 rfl rfl ?_)
 refine zA (zI 0 sc111 rfl rfl rfl rfl ?_)
 refine zA (xH pn111 rfl rfl ?_)
 refine oO 9 rfl (zB fo223_0 rfl rfl ?_)
 refine zA (zI 0 sc111 rfl rfl rfl rfl ?_)
 refine oO 3 rfl (xC 0 sc9 rfl rfl rfl ?_)
 refine zA (zR rfl rfl rfl (c151 s hs) sub0 (fun u14 D14 hv14 => ?_))
 obtain ⟨b14, rfl, rfl⟩ := hv14
 exact oK 3 [2] rfl rfl (zC Tryz.results189 rfl ⟨rfl, b14, rfl, rfl⟩ nS (sub1 0 rfl))
theorem c189b (b : Nat) (p : Addr) (s : Bool) : Ct Tryz.prog 189 #[ptr b] [.blk b [.pointer none, .pointer (some p)] 223] [.pts p (.bool s)] (fun u M' D' => M' = [] ∧ RN (scal tBool (fbB s)) u D') := by
 refine Ct.of_run (args := [ptr b]) Tryz.func189 (by kernel_rfl) rfl Tryz.ntmps189 rfl (fun c => ?_)
 refine rO 12 rfl (zB fo223_0 rfl rfl ?_)
 refine zA (zI 0 sc111 rfl rfl rfl rfl ?_)
 refine zA (xH pn111 rfl rfl ?_)
 refine oO 9 rfl (zB fo223_1 rfl rfl ?_)
 refine zA (zI 0 sc112 rfl rfl rfl rfl ?_)
 refine zA (xH pn112 rfl rfl ?_)
 refine oK 1 [19, 0] rfl rfl (rO 8 rfl ?_)
 refine zB fo223_1 rfl rfl (zA ?_)
 refine zI 0 sc112 rfl rfl rfl rfl (oO 3 rfl ?_)
 refine xC 0 sc4 rfl rfl rfl (zA ?_)
 refine zR rfl rfl rfl (c153 s) sub0 (fun u26 D26 hv26 => ?_)
 obtain ⟨b26, rfl, rfl⟩ := hv26
 exact oK 3 [2] rfl rfl (zC Tryz.results189 rfl ⟨rfl, b26, rfl, rfl⟩ nS (sub1 0 rfl))
theorem c189 (b : Nat) (x : EV) (q q' : Option Addr) : Ct Tryz.prog 189 #[ptr b] [.blk b [.pointer q, .pointer q'] 223] [.ev x (.pointer q) (.pointer q')] (fun u M' D' => M' = [] ∧ RN (evY x) u D') := by
  refine ⟨(c189b b ⟨0, 0, none⟩ true).1, fun w ok hok hM hn hD => ?_⟩
  have h := hD _ List.mem_cons_self
  cases x with
  | str s =>
    obtain ⟨p, h1, h2, h3, h4⟩ : EvP w ok (.str s) (.pointer q) (.pointer q') := h
    cases h1; cases h2
    exact (c189s b p s h3).2 w ok hok hM hn (fun d hd => by rw [List.mem_singleton.1 hd]; exact h4)
  | bool s =>
    obtain ⟨p, h1, h2, h4⟩ : EvP w ok (.bool s) (.pointer q) (.pointer q') := h
    cases h1; cases h2
    exact (c189b b p s).2 w ok hok hM hn (fun d hd => by rw [List.mem_singleton.1 hd]; exact h4)
theorem c162 (x : Value) (l : List EV) (hl : l.length ≤ 400000) : CtR Tryz.prog 162 #[x] [.fv x (.enums l)] (RN (RKids 2 (l.map evY))) := by
 refine Ct.of_run (args := [x]) Tryz.func162 (by kernel_rfl) rfl Tryz.ntmps162 rfl (fun c => ?_)
 refine run_enums 0 rfl (fun p A1 c1 hx hk1 hk2 => ?_)
 subst hx
 unfold maxLen at hk2
 refine rO 8 rfl (xD sl148 rfl rfl rfl (fun b6 => ?_))
 refine oO 11 rfl (xC 0 sc221 rfl rfl rfl ?_)
 refine zA (zZ sl221 rfl rfl ?_)
 refine oK 4 [11, 3, 10, 9] rfl rfl (zY (.ptrs [] ((l.take 0).map evY)) (fun w ok h => rfl) ?_)
 refine yS 2 (fun (⟨i, A, ca, xs1⟩ : Nat × Option Addr × Nat × List Value) => i ≤ l.length) (fun (⟨i, A, ca, xs1⟩ : Nat × Option Addr × Nat × List Value) => [(11, .int .i64 ((i : Nat) : Int)), (3, .slice A i ca)]) (fun (⟨i, A, ca, xs1⟩ : Nat × Option Addr × Nat × List Value) => HA.row A i ca 102 1 xs1 :: []) (fun (⟨i, A, ca, xs1⟩ : Nat × Option Addr × Nat × List Value) => .ptrs xs1 ((l.take i).map evY) :: .pts p (.slice A1 l.length c1) :: .evrow A1 c1 l :: .fv (.pointer (some p)) (.enums l) :: []) (fun (⟨i, A, ca, xs1⟩ : Nat × Option Addr × Nat × List Value) => l.length - i) (0, _, _, []) (by show 0 ≤ _; omega) (eC rfl (eC rfl (eN _))) rfl rfl ?_ (eC rfl (eC rfl (eN _)))
 intro ⟨i, A, ca, xs1⟩ hI K hK
 replace hI : i ≤ l.length := hI
 change Run _ _ _ _ _ [(11, _), (3, _), (10, _), (9, _)] [_] [_, _, _, _]
 refine rO 3 rfl (yT rfl rfl rfl ?_)
 refine oR 2 rfl (zM rfl (fun h12 => ?_) (fun h12 => ?_))
 ·refine rO 6 rfl (op_idxEv 2 sl221 rfl rfl rfl rfl h12 rfl ?_)
  have hlt : i < l.length := h12
  refine ops_ev 2 i rfl (List.getElem?_eq_getElem hlt) (fun q1 q2 => ?_)
  refine zA (op_loadC 0 ag223 rfl rfl rfl ?_)
  refine zA (zT ze223 rfl (fun b5 => ?_))
  change RunOps _ _ _ _ _ _ _ _ (HA.blk _ [_, _] _ :: _) _
  refine zA (zG 0 (M' := [HA.blk _ [_, _] _, _]) rfl rfl rfl rfl si223 rfl rfl rfl ?_)
  refine oO 5 rfl (xF 0 rfl rfl rfl (c189 _ _ _ _) rfl (sub1 1 rfl) (fun u16 M16 D16 hv16 => ?_))
  obtain ⟨rfl, b16, rfl, rfl⟩ := hv16
  refine zA (zK sl148 rfl rfl rfl rfl rfl (fun b17 => ?_))
  refine zA ?_
  refine op_apd 1 0 sl148 (fun A18 c18 => ?_)
  refine oO 6 rfl (yL rfl rfl (by omega) ?_)
  refine oK 3 [11, 3, 10, 9] rfl rfl (wU 3 0 rfl rfl ?_)
  rw [uM]
  exact kQ (hK (i + 1, _, _, _) (by show i + 1 ≤ _; omega) (by show l.length - (i + 1) < l.length - i; omega)) (eC rfl (eC rfl (eC rfl (eC rfl (eN _))))) (hD := (subc 0 rfl sQ))
 obtain rfl : i = l.length := by omega
 rw [List.take_length]
 refine vZ 0 0 _ rfl rfl (by intro b h; cases h) (rO 6 rfl ?_)
 refine zR rfl rfl rfl (c185 _ _ _ _) (sub1 0 rfl) (fun u21 D21 hv21 => ?_)
 obtain ⟨b21, rfl, rfl⟩ := hv21
 exact oR 3 rfl (zC Tryz.results162 rfl ⟨rfl, b21, rfl, rfl⟩ nS (sub1 0 rfl))
end Go.Jw

