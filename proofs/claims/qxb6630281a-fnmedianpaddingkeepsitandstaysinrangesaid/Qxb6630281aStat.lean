/-
  b1Less, b1Same, b1OrderStat and the two length guards: their walks.
-/
import Derived.Test.Qxb6630281aSort0
namespace Go.Proofs.Qxb6630281a.Own
open Go.RowKit

set_option maxHeartbeats 1000000 in
theorem b1Less_in (x y : Nat) (w : World) : Calls Try.prog 12 #[.float .f64 x, .float .f64 y] w fun e w' => e = .returned (.bool (ltF x y)) ∧ w' = w := by
  have hl := less_eq x y
  go_enter Try.func12, Try.ntmps12
  have e1 : (FloatKind.f64.format.order x x != some .eq) = isNaNB x := by
    show (Ieee.double.order x x != some .eq) = _
    rw [test_neq, eqB_self, Bool.not_not]
  cases hx : isNaNB x
  · rw [hx] at e1 hl
    go_wp2
    go_ret
    refine ⟨ret_bool ?_, rfl⟩
    exact (test_lss x y).trans (by simpa using hl)
  · rw [hx] at e1 hl
    go_wp2
    go_ret
    refine ⟨ret_bool ?_, rfl⟩
    have e2 : (Ieee.double.order y y == some .eq) = !isNaNB y := by rw [test_eq, eqB_self]
    refine e2.trans ?_
    rw [← hl]
    have : lssB x y = false := by unfold lssB; rw [hx]; rfl
    rw [this]
    simp

def sameB (x y : Nat) : Bool := eqB x y || (isNaNB x && isNaNB y)
set_option maxHeartbeats 1000000 in
theorem b1Same_in (x y : Nat) (w : World) : Calls Try.prog 8 #[.float .f64 x, .float .f64 y] w fun e w' => e = .returned (.bool (sameB x y)) ∧ w' = w := by
  go_enter Try.func8, Try.ntmps8
  have e1 : (FloatKind.f64.format.order x y == some .eq) = eqB x y := test_eq x y
  have e2 : (FloatKind.f64.format.order x x != some .eq) = isNaNB x := by
    show (Ieee.double.order x x != some .eq) = _
    rw [test_neq, eqB_self, Bool.not_not]
  have e3 : (FloatKind.f64.format.order y y != some .eq) = isNaNB y := by
    show (Ieee.double.order y y != some .eq) = _
    rw [test_neq, eqB_self, Bool.not_not]
  unfold sameB
  cases h1 : eqB x y <;> cases h2 : isNaNB x <;> cases h3 : isNaNB y
  all_goals
    rw [h1] at e1
    rw [h2] at e2
    rw [h3] at e3
    go_wp2
    go_ret
    exact ⟨rfl, rfl⟩

/-- how many of the first k lie below v; at or below v -/
def blw (G : Nat → Nat) (v : Nat) : Nat → Nat
  | 0 => 0
  | k + 1 => blw G v k + (if ltF (G k) v then 1 else 0)
def atb (G : Nat → Nat) (v : Nat) : Nat → Nat
  | 0 => 0
  | k + 1 => atb G v k + (if ltF v (G k) then 0 else 1)
theorem blw_le (G : Nat → Nat) (v k : Nat) : blw G v k ≤ k := by
  induction k with
  | zero => exact Nat.le_refl _
  | succ k ih => unfold blw; split <;> omega
theorem atb_le (G : Nat → Nat) (v k : Nat) : atb G v k ≤ k := by
  induction k with
  | zero => exact Nat.le_refl _
  | succ k ih => unfold atb; split <;> omega
def hit (G : Nat → Nat) (n k i : Nat) : Prop := blw G (G i) n ≤ k ∧ k < atb G (G i) n

set_option maxRecDepth 100000 in
set_option maxHeartbeats 2000000 in
theorem b1OrderStat_in (b off n cap k : Nat) (G : Nat → Nat) (hn : 0 < n) (hlen : n ≤ 1048578) (hk : k ≤ n) (w : World) (hc : ∀ j, j < n → w.cell? ⟨b, off + j, none⟩ = some (.float .f64 (G j))) :
    Calls Try.prog 7 #[.slice (some ⟨b, off, none⟩) n cap, .int .i64 k] w fun e w' => (∃ r, e = .returned (.float .f64 r) ∧ ((∃ i, i < n ∧ r = G i ∧ hit G n k i) ∨ ∀ i, i < n → ¬ hit G n k i)) ∧ w' = w := by
  go_enter Try.func7, Try.ntmps7
  go_wp2
  go_loop [5] (fun vi => ∃ i : Nat, i ≤ n ∧ vi = .int .i64 i ∧ ∀ i', i' < i → ¬ hit G n k i') (fun vi => n - (intOf vi).toNat)
  case atStart => exact ⟨0, Nat.zero_le _, rfl, fun i' h => absurd h (Nat.not_lt_zero _)⟩
  case round =>
    obtain ⟨i, hi, rfl, hno0⟩ := hrel
    have hno := hid hno0
    clear hno0
    by_cases hlt : i < n
    · have hci := hc i hlt
      go_wp2
      go_loop [7, 8, 9] (fun vb va vj => ∃ j : Nat, j ≤ n ∧ vj = .int .i64 j ∧ vb = .int .i64 (blw G (G i) j) ∧ va = .int .i64 (atb G (G i) j)) (fun _ _ vj => n - (intOf vj).toNat)
      case atStart => exact ⟨0, Nat.zero_le _, rfl, rfl, rfl⟩
      case round =>
        obtain ⟨j, hj, rfl, rfl, rfl⟩ := hrel
        have h1 := blw_le G (G i) j
        have h2 := atb_le G (G i) j
        by_cases hjlt : j < n
        · have hcj := hc j hjlt
          have eb : blw G (G i) (j + 1) = blw G (G i) j + (if ltF (G j) (G i) then 1 else 0) := rfl
          have ea : atb G (G i) (j + 1) = atb G (G i) j + (if ltF (G i) (G j) then 0 else 1) := rfl
          have EB := hid eb
          have EA := hid ea
          clear eb ea
          generalize blw G (G i) j = B at *
          generalize atb G (G i) j = A at *
          go_wp2_with (go_at_call 12; refine (b1Less_in _ _ _).mono ?_; rintro e w' ⟨rfl, rfl⟩)
          all_goals
            go_round
            case rel =>
              refine ⟨j + 1, by omega, by go_num, ?_, ?_⟩
              · first
                  | (have hb1 : ltF (G j) (G i) = true := by assumption
                     rw [EB.out, hb1]; rfl)
                  | (have hb1 : ltF (G j) (G i) = false := by assumption
                     rw [EB.out, hb1]; rfl)
              · first
                  | (have hb2 : (!ltF (G i) (G j)) = true := by assumption
                     have hb3 : ltF (G i) (G j) = false := by simpa using hb2
                     rw [EA.out, hb3]; rfl)
                  | (have hb2 : (!ltF (G i) (G j)) = false := by assumption
                     have hb3 : ltF (G i) (G j) = true := by simpa using hb2
                     rw [EA.out, hb3]; rfl)
            case measure => simp [intOf]; omega
        · obtain rfl : j = n := by omega
          go_wp2
          · go_ret
            exact ⟨⟨_, rfl, .inl ⟨i, hlt, rfl, by assumption, by assumption⟩⟩, rfl⟩
          all_goals
            have hnh : ¬ hit G j k i := by
              rintro ⟨q1, q2⟩
              omega
            go_round
            case rel =>
              refine ⟨i + 1, by omega, by go_num, fun i' h' => ?_⟩
              by_cases e : i' = i
              · rw [e]; exact hnh
              · exact hno.out i' (by omega)
            case measure => simp [intOf]; omega
    · obtain rfl : i = n := by omega
      have hc0 := hc 0 hn
      rw [Nat.add_zero] at hc0
      go_wp2
      go_ret
      exact ⟨⟨_, rfl, .inr hno.out⟩, rfl⟩

set_option maxHeartbeats 1000000 in
theorem zzBytes5_in (a : Option Addr) (n cap : Nat) (w : World) (h : n < 9223372036854775808) : Calls Try.prog 5 #[.slice a n cap] w fun e w' => e = .returned (.bool (decide (n ≤ 1048576))) ∧ w' = w := by
  go_enter Try.func5, Try.ntmps5
  go_wp2
  all_goals
    go_ret
    refine ⟨ret_bool ?_, rfl⟩
    simp only [Bool.true_eq, Bool.false_eq, decide_eq_true_eq, decide_eq_false_iff_not]
    omega
set_option maxHeartbeats 1000000 in
theorem zzBytes9_in (a : Option Addr) (n cap x y : Nat) (w : World) (h : n < 9223372036854775808) : Calls Try.prog 9 #[.slice a n cap, .float .f64 x, .float .f64 y] w fun e w' => e = .returned (.bool (decide (n ≤ 1048576))) ∧ w' = w := by
  go_enter Try.func9, Try.ntmps9
  go_wp2
  all_goals
    go_ret
    refine ⟨ret_bool ?_, rfl⟩
    simp only [Bool.true_eq, Bool.false_eq, decide_eq_true_eq, decide_eq_false_iff_not]
    omega
end Go.Proofs.Qxb6630281a.Own
