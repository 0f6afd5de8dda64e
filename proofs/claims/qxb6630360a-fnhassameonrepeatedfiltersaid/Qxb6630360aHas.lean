/-
  (bloom.Filter).Has at this dump.
-/
import Derived.Test.Qxb6630360aProbes
set_option linter.unusedSimpArgs false
namespace Go.Proofs.Qxb6630360a.Own
open Go.RowKit

/-- a row of 64-bit words lies in memory -/
def WordsAt (w : World) (b off n : Nat) (F : Nat → Nat) : Prop := (∀ i, i < n → w.cell? ⟨b, off + i, none⟩ = some (.int .u64 (F i : Nat))) ∧ ∀ i, i < n → F i < 18446744073709551616

def aggP (P : Nat → Nat) : Value := .agg #[.int .u64 (P 0 : Nat), .int .u64 (P 1 : Nat), .int .u64 (P 2 : Nat), .int .u64 (P 3 : Nat), .int .u64 (P 4 : Nat), .int .u64 (P 5 : Nat), .int .u64 (P 6 : Nat)]
theorem index26_0 (P : Nat → Nat) (w : World) : (Instr.index 26 (.agg #[.int .u64 (P 0 : Nat), .int .u64 (P 1 : Nat), .int .u64 (P 2 : Nat), .int .u64 (P 3 : Nat), .int .u64 (P 4 : Nat), .int .u64 (P 5 : Nat), .int .u64 (P 6 : Nat)]) (.int .i64 ((0 : Nat) : Int))).run Try.prog w = .ok (.int .u64 (P 0 : Nat)) w := by kernel_rfl
theorem index26_1 (P : Nat → Nat) (w : World) : (Instr.index 26 (.agg #[.int .u64 (P 0 : Nat), .int .u64 (P 1 : Nat), .int .u64 (P 2 : Nat), .int .u64 (P 3 : Nat), .int .u64 (P 4 : Nat), .int .u64 (P 5 : Nat), .int .u64 (P 6 : Nat)]) (.int .i64 ((1 : Nat) : Int))).run Try.prog w = .ok (.int .u64 (P 1 : Nat)) w := by kernel_rfl
theorem index26_2 (P : Nat → Nat) (w : World) : (Instr.index 26 (.agg #[.int .u64 (P 0 : Nat), .int .u64 (P 1 : Nat), .int .u64 (P 2 : Nat), .int .u64 (P 3 : Nat), .int .u64 (P 4 : Nat), .int .u64 (P 5 : Nat), .int .u64 (P 6 : Nat)]) (.int .i64 ((2 : Nat) : Int))).run Try.prog w = .ok (.int .u64 (P 2 : Nat)) w := by kernel_rfl
theorem index26_3 (P : Nat → Nat) (w : World) : (Instr.index 26 (.agg #[.int .u64 (P 0 : Nat), .int .u64 (P 1 : Nat), .int .u64 (P 2 : Nat), .int .u64 (P 3 : Nat), .int .u64 (P 4 : Nat), .int .u64 (P 5 : Nat), .int .u64 (P 6 : Nat)]) (.int .i64 ((3 : Nat) : Int))).run Try.prog w = .ok (.int .u64 (P 3 : Nat)) w := by kernel_rfl
theorem index26_4 (P : Nat → Nat) (w : World) : (Instr.index 26 (.agg #[.int .u64 (P 0 : Nat), .int .u64 (P 1 : Nat), .int .u64 (P 2 : Nat), .int .u64 (P 3 : Nat), .int .u64 (P 4 : Nat), .int .u64 (P 5 : Nat), .int .u64 (P 6 : Nat)]) (.int .i64 ((4 : Nat) : Int))).run Try.prog w = .ok (.int .u64 (P 4 : Nat)) w := by kernel_rfl
theorem index26_5 (P : Nat → Nat) (w : World) : (Instr.index 26 (.agg #[.int .u64 (P 0 : Nat), .int .u64 (P 1 : Nat), .int .u64 (P 2 : Nat), .int .u64 (P 3 : Nat), .int .u64 (P 4 : Nat), .int .u64 (P 5 : Nat), .int .u64 (P 6 : Nat)]) (.int .i64 ((5 : Nat) : Int))).run Try.prog w = .ok (.int .u64 (P 5 : Nat)) w := by kernel_rfl
theorem index26_6 (P : Nat → Nat) (w : World) : (Instr.index 26 (.agg #[.int .u64 (P 0 : Nat), .int .u64 (P 1 : Nat), .int .u64 (P 2 : Nat), .int .u64 (P 3 : Nat), .int .u64 (P 4 : Nat), .int .u64 (P 5 : Nat), .int .u64 (P 6 : Nat)]) (.int .i64 ((6 : Nat) : Int))).run Try.prog w = .ok (.int .u64 (P 6 : Nat)) w := by kernel_rfl
theorem index26 (P : Nat → Nat) (k : Nat) (hk : k < 7) (w : World) : (Instr.index 26 (.agg #[.int .u64 (P 0 : Nat), .int .u64 (P 1 : Nat), .int .u64 (P 2 : Nat), .int .u64 (P 3 : Nat), .int .u64 (P 4 : Nat), .int .u64 (P 5 : Nat), .int .u64 (P 6 : Nat)]) (.int .i64 (k : Nat))).run Try.prog w = .ok (.int .u64 (P k : Nat)) w := by
  have h : k = 0 ∨ k = 1 ∨ k = 2 ∨ k = 3 ∨ k = 4 ∨ k = 5 ∨ k = 6 := by omega
  rcases h with rfl | rfl | rfl | rfl | rfl | rfl | rfl
  · exact index26_0 P w
  · exact index26_1 P w
  · exact index26_2 P w
  · exact index26_3 P w
  · exact index26_4 P w
  · exact index26_5 P w
  · exact index26_6 P w

/-- one bit of a 64-bit word, in the walk's words -/
theorem pow_lt (j : Nat) (hj : j < 64) : (2 : Nat) ^ j < 18446744073709551616 := Nat.pow_lt_pow_right (a := 2) (by omega) hj
theorem wrap_bit (j : Nat) (hj : j < 64) : IntKind.u64.wrap (2 ^ j) = ((2 ^ j : Nat) : Int) := by
  have h := pow_lt j hj
  have e : ((2 : Int) ^ j) = ((2 ^ j : Nat) : Int) := by rw [Int.natCast_pow]; rfl
  rw [e]
  generalize (2 : Nat) ^ j = m at h ⊢
  rw [IntKind.wrap_u64]
  omega
theorem and_bit (x j : Nat) (hx : x < 18446744073709551616) (hj : j < 64) : bits .and .u64 (x : Int) (IntKind.u64.wrap (2 ^ j)) = ((x / 2 ^ j % 2 * 2 ^ j : Nat) : Int) := by
  rw [wrap_bit j hj, u64_and_nat x (2 ^ j) hx (pow_lt j hj), nat_bit]
theorem and_bit_zero (x j : Nat) (hx : x < 18446744073709551616) (hj : j < 64) : (bits .and .u64 (x : Int) (IntKind.u64.wrap (2 ^ j)) == 0) = !x.testBit j := by
  rw [and_bit x j hx hj, Nat.testBit_eq_decide_div_mod_eq]
  have h := Nat.two_pow_pos j
  have h2 : x / 2 ^ j % 2 = 0 ∨ x / 2 ^ j % 2 = 1 := by omega
  rcases h2 with e | e
  · rw [e]; simp
  · rw [e, Nat.one_mul]
    generalize (2 : Nat) ^ j = m at h ⊢
    exact beq_eq_false_iff_ne.2 (by omega)

/-- are all seven bits set? -/
def hasB (F P : Nat → Nat) : Bool := (List.range 7).all (fun i => (F (P i / 64)).testBit (P i % 64))
theorem hasB_true {F P : Nat → Nat} (h : ∀ i, i < 7 → (F (P i / 64)).testBit (P i % 64) = true) : hasB F P = true := by
  unfold hasB
  rw [List.all_eq_true]
  intro i hi
  exact h i (List.mem_range.1 hi)
theorem hasB_false {F P : Nat → Nat} (i : Nat) (hi : i < 7) (h : (F (P i / 64)).testBit (P i % 64) = false) : hasB F P = false := by
  unfold hasB
  rw [List.all_eq_false]
  exact ⟨i, List.mem_range.2 hi, by rw [h]; exact Bool.false_ne_true⟩
theorem hasB_iff {F P : Nat → Nat} : hasB F P = true ↔ ∀ i, i < 7 → (F (P i / 64)).testBit (P i % 64) = true := by
  unfold hasB
  rw [List.all_eq_true]
  exact ⟨fun h i hi => h i (List.mem_range.2 hi), fun h i hi => h i (List.mem_range.1 hi)⟩
theorem ret_bool {a b : Bool} (h : a = b) : Ending.returned (.bool a) = .returned (.bool b) := by rw [h]

theorem probe_lt (K : Nat → UInt8) (n i : Nat) (h : 1 ≤ n) : probe K n i < n * 64 := Nat.mod_lt _ (by omega)

set_option maxHeartbeats 1000000 in
theorem has_any (b off n cap : Nat) (F : Nat → Nat) (ks : Array Value) (K : Nat → UInt8) (w : World) (hks : ∀ j, j < 32 → ks[j]? = some (.int .u8 ((K j).toNat : Nat))) (h1 : 1 ≤ n) (h2 : n ≤ 131072) (hb : b < w.heap.size) (hF : WordsAt w b off n F) :
    Calls Try.prog 8 #[.slice (some ⟨b, off, none⟩) n cap, .agg ks] w fun e w' => e = .returned (.bool (hasB F (probe K n))) ∧ Below w.heap.size w w' := by
  have hka : KeyAt (w.alloc (.cells ks 23)) w.heap.size K := by
    intro j hj
    rw [← hks j hj]
    simp
  have HF := hid hF
  clear hF hks
  go_enter Try.func8, Try.ntmps8
  go_wp2_with fail
  refine (probes_any b off n cap w.heap.size K _ h1 h2 (by simp) hka).mono ?_
  rintro e W1 ⟨rfl, b1⟩
  have hB1 : Below w.heap.size w W1 := ((Below.refl _ w).alloc (Nat.le_refl _) _).trans (b1.mono (by simp))
  have hix : ∀ (k : Nat), k < 7 → ∀ wx, (Instr.index 26 (.agg #[.int .u64 (probe K n 0 : Nat), .int .u64 (probe K n 1 : Nat), .int .u64 (probe K n 2 : Nat), .int .u64 (probe K n 3 : Nat), .int .u64 (probe K n 4 : Nat), .int .u64 (probe K n 5 : Nat), .int .u64 (probe K n 6 : Nat)]) (.int .i64 (k : Nat))).run Try.prog wx = .ok (.int .u64 (probe K n k : Nat)) wx := fun k hk wx => index26 (probe K n) k hk wx
  have HIX := hid hix
  clear hix b1 hka
  go_wp2
  go_loop [9] (fun i => ∃ k : Nat, k ≤ 7 ∧ i = .int .i64 k ∧ ∀ j, j < k → (F (probe K n j / 64)).testBit (probe K n j % 64) = true) (fun i => 7 - (intOf i).toNat)
  case atStart => exact ⟨0, Nat.zero_le _, rfl, fun j hj => absurd hj (Nat.not_lt_zero _)⟩
  case round =>
    obtain ⟨k, hk, rfl, hj0⟩ := hrel
    have hj := hid hj0
    clear hj0
    by_cases hlt : k < 7
    · have hx := HIX.out k hlt
      have hp := probe_lt K n k h1
      have hg := grp_lt K k
      obtain ⟨p, hpp⟩ : ∃ p, probe K n k = p := ⟨_, rfl⟩
      rw [hpp] at hx hp
      have HPP := hid hpp
      clear hpp hg
      have hc : W1.cell? ⟨b, off + p / 64, none⟩ = some (.int .u64 (F (p / 64) : Nat)) := (hB1.cell (p := ⟨b, off + p / 64, none⟩) hb).trans (HF.out.1 (p / 64) (by omega))
      have hbit := hid (and_bit_zero (F (p / 64)) (p % 64) (HF.out.2 (p / 64) (by omega)) (by omega))
      go_wp2
      · rename_i ht _
        have hv : hasB F (probe K n) = false := by
          refine hasB_false k hlt ?_
          rw [HPP.out]
          have h := hbit.out
          rw [ht] at h
          simpa using h.symm
        go_ret
        exact ⟨ret_bool hv.symm, hB1⟩
      · rename_i ht
        have hv : (F (probe K n k / 64)).testBit (probe K n k % 64) = true := by
          rw [HPP.out]
          have h := hbit.out
          rw [ht] at h
          simpa using h.symm
        go_round
        case rel =>
          refine ⟨k + 1, by omega, by go_num, fun j hjk => ?_⟩
          by_cases e : j = k
          · subst e; exact hv
          · exact hj.out j (by omega)
        case measure => simp [intOf]; omega
    · have hv := hid (hasB_true (F := F) (P := probe K n) (fun i hi => hj.out i (by omega)))
      go_wp2
      go_ret
      exact ⟨ret_bool hv.out.symm, hB1⟩
end Go.Proofs.Qxb6630360a.Own
