/-
  float64 by its bits: the rank of a word. Plain: no program in sight.
-/
import Ieee.Arith
namespace Go.Proofs.Qxb6630281a.Own
open Ieee

/-- the word without its sign bit -/
def rung (x : Nat) : Nat := x % 9223372036854775808
def isNeg (x : Nat) : Bool := x / 9223372036854775808 % 2 == 1
def infR : Nat := 9218868437227405312
def isNaNB (x : Nat) : Bool := decide (infR < rung x)
/-- the order of the words: every not-a-number first, then by value; the two zeros are one -/
def rank (x : Nat) : Int := if isNaNB x then -18446744073709551616 else if isNeg x then -(rung x : Int) else (rung x : Int)
/-- cmp.Less -/
def ltF (x y : Nat) : Bool := decide (rank x < rank y)

theorem double_signWeight : double.signWeight = 9223372036854775808 := rfl
theorem double_binade : double.binade = 4503599627370496 := rfl
theorem double_infRung : double.infRung = 9218868437227405312 := rfl
theorem double_leastPlace : double.leastPlace = -1074 := rfl

/-- the magnitude of a rung, in units of the least place -/
def mant (r : Nat) : Nat := if r < 4503599627370496 then r else 4503599627370496 + r % 4503599627370496
def expo (r : Nat) : Nat := if r < 4503599627370496 then 0 else r / 4503599627370496 - 1
def val (r : Nat) : Nat := mant r * 2 ^ expo r

theorem read_number (x : Nat) (h : rung x < infR) : double.read x = .number (isNeg x) (mant (rung x)) (-1074 + (expo (rung x) : Int)) := by
  unfold Format.read
  simp only [double_signWeight, double_binade, double_infRung, double_leastPlace]
  show (if rung x < 4503599627370496 then Datum.number (isNeg x) (rung x) (-1074) else if rung x < 9218868437227405312 then Datum.number (isNeg x) (4503599627370496 + rung x % 4503599627370496) (-1074 + ((rung x / 4503599627370496 - 1 : Nat) : Int)) else _) = _
  unfold infR at h
  by_cases h1 : rung x < 4503599627370496
  · rw [if_pos h1, mant, if_pos h1, expo, if_pos h1]; rfl
  · rw [if_neg h1, if_pos h, mant, if_neg h1, expo, if_neg h1]
theorem read_inf (x : Nat) (h : rung x = infR) : double.read x = .infinity (isNeg x) := by
  unfold Format.read
  simp only [double_signWeight, double_binade, double_infRung, double_leastPlace]
  show (if rung x < 4503599627370496 then _ else if rung x < 9218868437227405312 then _ else if rung x = 9218868437227405312 then Datum.infinity (isNeg x) else _) = _
  unfold infR at h
  rw [if_neg (by omega), if_neg (by omega), if_pos h]
theorem read_nan (x : Nat) (h : infR < rung x) : ∃ f, double.read x = .nan (isNeg x) f := by
  refine ⟨rung x - 9218868437227405312, ?_⟩
  unfold Format.read
  simp only [double_signWeight, double_binade, double_infRung, double_leastPlace]
  show (if rung x < 4503599627370496 then _ else if rung x < 9218868437227405312 then _ else if rung x = 9218868437227405312 then _ else Datum.nan (isNeg x) (rung x - 9218868437227405312)) = _
  unfold infR at h
  rw [if_neg (by omega), if_neg (by omega), if_neg (by omega)]

/-! ### magnitudes grow with the rungs -/
theorem val_step (r : Nat) : val r < val (r + 1) := by
  unfold val mant expo
  by_cases h1 : r + 1 < 4503599627370496
  · rw [if_pos (by omega), if_pos (by omega), if_pos h1, if_pos h1]; omega
  · by_cases h2 : r < 4503599627370496
    · have e : r = 4503599627370495 := by omega
      subst e
      decide
    · rw [if_neg h2, if_neg h2, if_neg h1, if_neg h1]
      by_cases h3 : r % 4503599627370496 = 4503599627370495
      · have e1 : (r + 1) % 4503599627370496 = 0 := by omega
        have e2 : (r + 1) / 4503599627370496 - 1 = (r / 4503599627370496 - 1) + 1 := by omega
        rw [h3, e1, e2, Nat.pow_succ]
        have hp := Nat.two_pow_pos (r / 4503599627370496 - 1)
        generalize 2 ^ (r / 4503599627370496 - 1) = p at hp ⊢
        omega
      · have e1 : (r + 1) % 4503599627370496 = r % 4503599627370496 + 1 := by omega
        have e2 : (r + 1) / 4503599627370496 = r / 4503599627370496 := by omega
        rw [e1, e2]
        exact Nat.mul_lt_mul_of_pos_right (by omega) (Nat.two_pow_pos _)
theorem val_lt {a b : Nat} (h : a < b) : val a < val b := by
  induction b with
  | zero => omega
  | succ b ih =>
    rcases Nat.lt_succ_iff_lt_or_eq.1 h with h1 | h1
    · exact Nat.lt_trans (ih h1) (val_step b)
    · rw [h1]; exact val_step b
theorem val_zero : val 0 = 0 := rfl
theorem val_le {a b : Nat} (h : a ≤ b) : val a ≤ val b := by
  rcases Nat.lt_or_eq_of_le h with h1 | h1
  · exact Nat.le_of_lt (val_lt h1)
  · rw [h1]; exact Nat.le_refl _
theorem val_inj {a b : Nat} (h : val a = val b) : a = b := by
  rcases Nat.lt_trichotomy a b with h1 | h1 | h1
  · have := val_lt h1; omega
  · exact h1
  · have := val_lt h1; omega

/-! ### the order of two words is the order of their ranks -/
theorem cmp_lt {a b : Int} (h : a < b) : compare a b = .lt := by
  show compareOfLessAndEq a b = .lt
  simp [compareOfLessAndEq, h]
theorem cmp_eq {a b : Int} (h : a = b) : compare a b = .eq := by
  subst h
  show compareOfLessAndEq a a = .eq
  simp [compareOfLessAndEq]
theorem cmp_gt {a b : Int} (h : b < a) : compare a b = .gt := by
  show compareOfLessAndEq a b = .gt
  simp [compareOfLessAndEq, show ¬ a < b by omega, show ¬ a = b by omega]
/-- two pairs that stand alike compare alike -/
theorem cmp_congr {a b c d : Int} (h1 : a < b → c < d) (h2 : a = b → c = d) (h3 : b < a → d < c) : compare a b = compare c d := by
  rcases Int.lt_trichotomy a b with h | h | h
  · rw [cmp_lt h, cmp_lt (h1 h)]
  · rw [cmp_eq h, cmp_eq (h2 h)]
  · rw [cmp_gt h, cmp_gt (h3 h)]

/-- a magnitude with its sign -/
def sv (s : Bool) (v : Nat) : Int := if s then -(v : Int) else (v : Int)
theorem signed_sv (s : Bool) (m up : Nat) : signed s m up = sv s (m * 2 ^ up) := by
  unfold signed sv
  rw [Nat.shiftLeft_eq]
theorem sv_mul (s : Bool) (v c : Nat) : sv s (v * c) = sv s v * (c : Int) := by
  unfold sv
  cases s
  · simp
  · simp [Int.neg_mul]
theorem sv_mono {s t : Bool} {f : Nat → Nat} (h0 : f 0 = 0) (hf : ∀ {a b : Nat}, a < b → f a < f b) (a b : Nat) : compare (sv s (f a)) (sv t (f b)) = compare (sv s a) (sv t b) := by
  have key : ∀ a b : Nat, (f a < f b ↔ a < b) ∧ (f a = f b ↔ a = b) := by
    intro a b
    rcases Nat.lt_trichotomy a b with h | h | h
    · have := hf h; omega
    · subst h; omega
    · have := hf h; omega
  have ka := key 0 a
  have kb := key 0 b
  have k1 := key a b
  have k2 := key b a
  rw [h0] at ka kb
  unfold sv
  cases s <;> cases t
  all_goals
    simp only [Bool.false_eq_true, if_false, if_true]
    refine cmp_congr ?_ ?_ ?_ <;> omega
theorem cmp_mul (a b : Int) (c : Nat) (hc : 0 < c) : compare (a * (c : Int)) (b * (c : Int)) = compare a b := by
  have hc' : (0 : Int) < (c : Int) := by omega
  refine cmp_congr ?_ ?_ ?_
  · intro h; exact Int.lt_of_mul_lt_mul_right h (by omega)
  · intro h; exact Int.eq_of_mul_eq_mul_right (by omega) h
  · intro h; exact Int.lt_of_mul_lt_mul_right h (by omega)

theorem order_numbers (s t : Bool) (m n e1 e2 : Nat) : Datum.order (.number s m (-1074 + (e1 : Int))) (.number t n (-1074 + (e2 : Int))) = some (compare (sv s (m * 2 ^ e1)) (sv t (n * 2 ^ e2))) := by
  simp only [Datum.order, signed_sv]
  congr 1
  obtain ⟨k, hk⟩ : ∃ k, k = min e1 e2 := ⟨_, rfl⟩
  have hb : min (-1074 + (e1 : Int)) (-1074 + (e2 : Int)) = -1074 + (k : Int) := by omega
  rw [hb]
  have h1 : (-1074 + (e1 : Int) - (-1074 + (k : Int))).toNat = e1 - k := by omega
  have h2 : (-1074 + (e2 : Int) - (-1074 + (k : Int))).toNat = e2 - k := by omega
  rw [h1, h2]
  have p1 : m * 2 ^ e1 = m * 2 ^ (e1 - k) * 2 ^ k := by rw [Nat.mul_assoc, ← Nat.pow_add]; congr 2; omega
  have p2 : n * 2 ^ e2 = n * 2 ^ (e2 - k) * 2 ^ k := by rw [Nat.mul_assoc, ← Nat.pow_add]; congr 2; omega
  rw [p1, p2, sv_mul s (m * 2 ^ (e1 - k)) (2 ^ k), sv_mul t (n * 2 ^ (e2 - k)) (2 ^ k), cmp_mul _ _ _ (Nat.two_pow_pos k)]

theorem rank_num {x : Nat} (h : isNaNB x = false) : rank x = sv (isNeg x) (rung x) := by
  unfold rank sv
  rw [h]
  rfl
theorem notNaN {x : Nat} (h : isNaNB x = false) : rung x ≤ infR := by
  unfold isNaNB at h
  have := of_decide_eq_false h
  omega

theorem order_rank {x y : Nat} (hx : isNaNB x = false) (hy : isNaNB y = false) : double.order x y = some (compare (rank x) (rank y)) := by
  have h1 := notNaN hx
  have h2 := notNaN hy
  rw [rank_num hx, rank_num hy]
  unfold Format.order
  rcases Nat.lt_or_eq_of_le h1 with a | a <;> rcases Nat.lt_or_eq_of_le h2 with b | b
  · rw [read_number x a, read_number y b, order_numbers]
    congr 1
    exact sv_mono (f := val) val_zero val_lt (rung x) (rung y)
  · rw [read_number x a, read_inf y b]
    simp only [Datum.order]
    congr 1
    unfold sv
    rw [b]
    unfold infR at a ⊢
    cases isNeg x <;> cases isNeg y
    all_goals
      simp only [Bool.false_eq_true, if_false, if_true]
      first
        | exact (cmp_lt (by omega)).symm
        | exact (cmp_gt (by omega)).symm
  · rw [read_inf x a, read_number y b]
    simp only [Datum.order]
    congr 1
    unfold sv
    rw [a]
    unfold infR at b ⊢
    cases isNeg x <;> cases isNeg y
    all_goals
      simp only [Bool.false_eq_true, if_false, if_true]
      first
        | exact (cmp_lt (by omega)).symm
        | exact (cmp_gt (by omega)).symm
  · rw [read_inf x a, read_inf y b]
    simp only [Datum.order]
    congr 1
    unfold sv
    rw [a, b]
    cases isNeg x <;> cases isNeg y <;> rfl

theorem order_nan_left {x y : Nat} (h : isNaNB x = true) : double.order x y = none := by
  obtain ⟨f, hf⟩ := read_nan x (of_decide_eq_true h)
  unfold Format.order
  rw [hf]
  rfl
theorem order_nan_right {x y : Nat} (h : isNaNB y = true) : double.order x y = none := by
  obtain ⟨f, hf⟩ := read_nan y (of_decide_eq_true h)
  unfold Format.order
  rw [hf]
  cases double.read x <;> rfl

/-! ### the six tests, in the walk's words -/
theorem rung_lt (x : Nat) : rung x < 9223372036854775808 := Nat.mod_lt _ (by omega)
theorem rank_nan {x : Nat} (h : isNaNB x = true) : rank x = -18446744073709551616 := by unfold rank; rw [h]; rfl
theorem rank_gt {x : Nat} (h : isNaNB x = false) : -9223372036854775808 < rank x ∧ rank x < 9223372036854775808 := by
  have := rung_lt x
  rw [rank_num h]
  unfold sv
  split <;> omega

def eqB (x y : Nat) : Bool := !isNaNB x && !isNaNB y && decide (rank x = rank y)
def lssB (x y : Nat) : Bool := !isNaNB x && !isNaNB y && decide (rank x < rank y)
theorem test_eq (x y : Nat) : (double.order x y == some .eq) = eqB x y := by
  unfold eqB
  cases hx : isNaNB x
  · cases hy : isNaNB y
    · rw [order_rank hx hy]
      rcases Int.lt_trichotomy (rank x) (rank y) with h | h | h
      · rw [cmp_lt h, decide_eq_false (by omega)]; rfl
      · rw [cmp_eq h, decide_eq_true h]; rfl
      · rw [cmp_gt h, decide_eq_false (by omega)]; rfl
    · rw [order_nan_right hy]; rfl
  · rw [order_nan_left hx]; rfl
theorem test_neq (x y : Nat) : (double.order x y != some .eq) = !eqB x y := by rw [bne, test_eq]
theorem test_lss (x y : Nat) : (double.order x y == some .lt) = lssB x y := by
  unfold lssB
  cases hx : isNaNB x
  · cases hy : isNaNB y
    · rw [order_rank hx hy]
      rcases Int.lt_trichotomy (rank x) (rank y) with h | h | h
      · rw [cmp_lt h, decide_eq_true h]; rfl
      · rw [cmp_eq h, decide_eq_false (by omega)]; rfl
      · rw [cmp_gt h, decide_eq_false (by omega)]; rfl
    · rw [order_nan_right hy]; rfl
  · rw [order_nan_left hx]; rfl
theorem test_gtr (x y : Nat) : (double.order x y == some .gt) = lssB y x := by
  unfold lssB
  cases hx : isNaNB x
  · cases hy : isNaNB y
    · rw [order_rank hx hy]
      rcases Int.lt_trichotomy (rank x) (rank y) with h | h | h
      · rw [cmp_lt h, decide_eq_false (by omega)]; rfl
      · rw [cmp_eq h, decide_eq_false (by omega)]; rfl
      · rw [cmp_gt h, decide_eq_true h]; rfl
    · rw [order_nan_right hy]; rfl
  · rw [order_nan_left hx]; cases isNaNB y <;> rfl
theorem eqB_self (x : Nat) : eqB x x = !isNaNB x := by
  unfold eqB
  simp
/-- cmp.Less: NaN first, then by value -/
theorem less_eq (x y : Nat) : ((isNaNB x && !isNaNB y) || lssB x y) = ltF x y := by
  unfold ltF lssB
  cases hx : isNaNB x
  · cases hy : isNaNB y
    · simp
    · have h1 := rank_gt hx
      have h2 := rank_nan hy
      rw [h2, decide_eq_false (by omega)]; rfl
  · cases hy : isNaNB y
    · have h1 := rank_nan hx
      have h2 := rank_gt hy
      rw [h1, decide_eq_true (by omega)]; rfl
    · rw [rank_nan hx, rank_nan hy]; rfl
end Go.Proofs.Qxb6630281a.Own
