/-
  The length guards; and the plain laws of bits.
-/
import Derived.Test.Qxb6630360aWithKey
set_option linter.unusedSimpArgs false
namespace Go.Proofs.Qxb6630360a.Own
open Go.RowKit

set_option maxHeartbeats 400000 in
theorem bytes5_no (ao : Option Addr) (n cap : Nat) (ks : Array Value) (w : World) (h : 1048576 < n) :
    Calls Try.prog 5 #[.slice ao n cap, .agg ks] w fun e w' => e = .returned (.bool false) ∧ Below w.heap.size w w' := by
  go_enter Try.func5, Try.ntmps5
  go_wp2
  go_ret
  exact ⟨rfl, by first | exact Below.refl _ _ | exact (Below.refl _ _).alloc (Nat.le_refl _) _⟩
set_option maxHeartbeats 400000 in
theorem bytes5_yes (ao : Option Addr) (n cap : Nat) (ks : Array Value) (w : World) (h : n ≤ 1048576) :
    Calls Try.prog 5 #[.slice ao n cap, .agg ks] w fun e w' => e = .returned (.bool true) ∧ Below w.heap.size w w' := by
  go_enter Try.func5, Try.ntmps5
  go_wp2
  go_ret
  exact ⟨rfl, by first | exact Below.refl _ _ | exact (Below.refl _ _).alloc (Nat.le_refl _) _⟩
set_option maxHeartbeats 400000 in
theorem bytes9_no (ao : Option Addr) (n cap : Nat) (ks : Array Value) (r : Int) (w : World) (h : 1048576 < n) :
    Calls Try.prog 9 #[.slice ao n cap, .agg ks, .int .i64 r] w fun e w' => e = .returned (.bool false) ∧ Below w.heap.size w w' := by
  go_enter Try.func9, Try.ntmps9
  go_wp2
  go_ret
  exact ⟨rfl, by first | exact Below.refl _ _ | exact (Below.refl _ _).alloc (Nat.le_refl _) _⟩
set_option maxHeartbeats 400000 in
theorem bytes9_yes (ao : Option Addr) (n cap : Nat) (ks : Array Value) (r : Int) (w : World) (h : n ≤ 1048576) :
    Calls Try.prog 9 #[.slice ao n cap, .agg ks, .int .i64 r] w fun e w' => e = .returned (.bool true) ∧ Below w.heap.size w w' := by
  go_enter Try.func9, Try.ntmps9
  go_wp2
  go_ret
  exact ⟨rfl, by first | exact Below.refl _ _ | exact (Below.refl _ _).alloc (Nat.le_refl _) _⟩

/-! ### the plain laws -/
theorem setBit_mono (G : Nat → Nat) (p i j : Nat) (h : (G i).testBit j = true) : (setBit G p i).testBit j = true := by
  unfold setBit
  split
  · rw [Nat.testBit_or, h]; rfl
  · exact h
theorem setBit_self (G : Nat → Nat) (p : Nat) : (setBit G p (p / 64)).testBit (p % 64) = true := by
  unfold setBit
  rw [if_pos rfl, Nat.testBit_or, Nat.testBit_two_pow_self, Bool.or_true]
theorem withK_has (F P : Nat → Nat) (j : Nat) : ∀ k, j < k → (withK F P k (P j / 64)).testBit (P j % 64) = true
  | 0, h => absurd h (Nat.not_lt_zero _)
  | k + 1, h => by
    show (setBit (withK F P k) (P k) (P j / 64)).testBit (P j % 64) = true
    by_cases e : j = k
    · rw [e]; exact setBit_self _ _
    · exact setBit_mono _ _ _ _ (withK_has F P j k (by omega))
/-- (a) with the key's bits set it has the key -/
theorem law_a (F P : Nat → Nat) : hasB (withK F P 7) P = true := hasB_true (fun i hi => withK_has F P i 7 hi)

theorem setBit_id (G : Nat → Nat) (p : Nat) (h : (G (p / 64)).testBit (p % 64) = true) : setBit G p = G := by
  funext i
  unfold setBit
  split
  · rename_i e
    subst e
    apply Nat.eq_of_testBit_eq
    intro j
    rw [Nat.testBit_or, Nat.testBit_two_pow]
    by_cases ej : p % 64 = j
    · subst ej; rw [h]; simp
    · simp [ej]
  · rfl
theorem withK_id (F P : Nat → Nat) (h : ∀ i, i < 7 → (F (P i / 64)).testBit (P i % 64) = true) : ∀ k, k ≤ 7 → withK F P k = F
  | 0, _ => rfl
  | k + 1, hk => by
    show setBit (withK F P k) (P k) = F
    rw [withK_id F P h k (by omega)]
    exact setBit_id F (P k) (h k (by omega))
/-- (b) it has the key exactly where setting the bits changes nothing -/
theorem law_b (F P : Nat → Nat) (n : Nat) (hP : ∀ i, i < 7 → P i < n * 64) : hasB F P = true ↔ ∀ i, i < n → F i = withK F P 7 i := by
  constructor
  · intro h i _
    rw [withK_id F P (hasB_iff.1 h) 7 (by omega)]
  · intro h
    refine hasB_true (fun i hi => ?_)
    have hp := hP i hi
    rw [h (P i / 64) (by omega)]
    exact withK_has F P i 7 hi
/-- one bit cleared -/
def clearBit (G : Nat → Nat) (p : Nat) : Nat → Nat := fun i => if i = p / 64 then G i &&& (18446744073709551615 - 2 ^ (p % 64)) else G i
theorem cleared (x j : Nat) (hj : j < 64) : (x &&& (18446744073709551615 - 2 ^ j)).testBit j = false := by
  have h : (18446744073709551615 - 2 ^ j) = 2 ^ 64 - (2 ^ j + 1) := by omega
  rw [Nat.testBit_and, h, Nat.testBit_two_pow_sub_succ (pow_lt j hj), Nat.testBit_two_pow_self]
  simp
/-- (c) with one of its bits cleared it has the key no more -/
theorem law_c (G P : Nat → Nat) (j : Nat) (hj : j < 7) : hasB (clearBit G (P j)) P = false := by
  refine hasB_false j hj ?_
  unfold clearBit
  rw [if_pos rfl]
  exact cleared _ _ (Nat.mod_lt _ (by omega))
theorem clear_lt (x j : Nat) (hx : x < 18446744073709551616) : x &&& (18446744073709551615 - 2 ^ j) < 18446744073709551616 := Nat.lt_of_le_of_lt Nat.and_le_left hx
theorem andNot_bit (x j : Nat) (hx : x < 18446744073709551616) (hj : j < 64) : bits .andNot .u64 (x : Int) (IntKind.u64.wrap (2 ^ j)) = ((x &&& (18446744073709551615 - 2 ^ j) : Nat) : Int) := by
  rw [wrap_bit j hj, u64_andNot_nat x (2 ^ j) hx (pow_lt j hj)]
end Go.Proofs.Qxb6630360a.Own
