/- The library's sort at float64 over this program: the kit's walk at int (Derived/Sort/WalkB2), turned by program to this dump's functions and elements. -/
import Derived.Test.Qxb6630281aSortB12
import Derived.BigQuiet
import Derived.CellFam
import Derived.BigCall
import Derived.BigGuard
namespace Go.Sort
variable {α : Type} [Inhabited α] (lt : α → α → Bool)

theorem sd_end {hi F root : Nat} (d : Array α) (h : hi ≤ 2 * root + 1) : siftDown lt hi F root d = d := by rw [siftDown, dif_pos h]
theorem sd_right_stop {hi F root : Nat} (d : Array α) (h1 : 2 * root + 2 < hi) (h2 : lt d[F + (2 * root + 1)]! d[F + (2 * root + 2)]! = true) (h3 : lt d[F + root]! d[F + (2 * root + 2)]! = false) : siftDown lt hi F root d = d := by
  rw [siftDown, dif_neg (by omega), show F + (2 * root + 1) + 1 = F + (2 * root + 2) by omega, h2, h3]
  simp [show 2 * root + 1 + 1 < hi by omega]
theorem sd_right_go {hi F root : Nat} (d : Array α) (h1 : 2 * root + 2 < hi) (h2 : lt d[F + (2 * root + 1)]! d[F + (2 * root + 2)]! = true) (h3 : lt d[F + root]! d[F + (2 * root + 2)]! = true) :
    siftDown lt hi F root d = siftDown lt hi F (2 * root + 2) (swp d (F + root) (F + (2 * root + 2))) := by
  rw [siftDown, dif_neg (by omega), show F + (2 * root + 1) + 1 = F + (2 * root + 2) by omega, h2, h3]
  simp [show 2 * root + 1 + 1 < hi by omega]
theorem sd_left_stop {hi F root : Nat} (d : Array α) (h0 : 2 * root + 1 < hi) (h1 : 2 * root + 2 < hi → lt d[F + (2 * root + 1)]! d[F + (2 * root + 2)]! = false) (h3 : lt d[F + root]! d[F + (2 * root + 1)]! = false) : siftDown lt hi F root d = d := by
  rw [siftDown, dif_neg (by omega), show F + (2 * root + 1) + 1 = F + (2 * root + 2) by omega, h3]
  by_cases h : 2 * root + 2 < hi
  · simp [h1 h]
  · simp [show ¬ 2 * root + 1 + 1 < hi by omega]
theorem sd_left_go {hi F root : Nat} (d : Array α) (h0 : 2 * root + 1 < hi) (h1 : 2 * root + 2 < hi → lt d[F + (2 * root + 1)]! d[F + (2 * root + 2)]! = false) (h3 : lt d[F + root]! d[F + (2 * root + 1)]! = true) :
    siftDown lt hi F root d = siftDown lt hi F (2 * root + 1) (swp d (F + root) (F + (2 * root + 1))) := by
  rw [siftDown, dif_neg (by omega), show F + (2 * root + 1) + 1 = F + (2 * root + 2) by omega, h3]
  by_cases h : 2 * root + 2 < hi
  · simp [h1 h]
  · simp [show ¬ 2 * root + 1 + 1 < hi by omega]
end Go.Sort

namespace Go.Proofs.Qxb6630281a.Own
open Go.Sort Go.RowKit
attribute [local go_sem] run_store_flt

theorem drewN_world {α : Type} [Inhabited α] (enc : α → Value) {w wr : World} {n blk off : Nat} {dk : Array α} (hwr : wr = putRow enc (Sort.ahead w n) blk off dk) (m : Nat) : wr.drewN m = putRow enc (Sort.ahead w (n + m)) blk off dk := by
  subst hwr
  rw [← ahead_ahead]
  rfl

set_option maxHeartbeats 3200000 in
set_option maxRecDepth 1000000 in
theorem siftDown_flt (blk off len cap : Nat) (d : Array Nat) (hlen : d.size = len) (lo hi first : Nat) (w : World) (hH : Holds encI w blk off d) (hlo : lo ≤ hi) (hb : first + hi ≤ d.size) (hsz : d.size < 4611686018427387904) :
    Calls Try.prog 30 #[.slice (some ⟨blk, off, none⟩) len cap, .int .i64 lo, .int .i64 hi, .int .i64 first] w fun e w' => e = .returned (.tuple #[]) ∧ ∃ n, w' = putRow encI (Sort.ahead w n) blk off (siftDown ltF hi first lo d) := by
  subst hlen
  go_enter Try.func30, Try.ntmps30
  go_wp2
  go_loopg [8] (hi - lo) (fun k s8 wr => ∃ (root : Nat) (dk : Array Nat) (n : Nat), s8 = .int .i64 root ∧ root ≤ hi ∧ hi - root ≤ k ∧ dk.size = d.size ∧ wr = putRow encI (Sort.ahead w n) blk off dk ∧ siftDown ltF hi first root dk = siftDown ltF hi first lo d)
  case atStart => exact ⟨lo, d, 0, rfl, hlo, Nat.le_refl _, rfl, (putRow_self encI w blk off d hH).symm, rfl⟩
  case round =>
    obtain ⟨root, dk, n, rfl, hr, hk, hds, hwr, heq⟩ := hrel
    have hHk : Holds encI wr blk off dk := by rw [hwr]; exact holds_putRow encI _ blk off d dk (holds_ahead encI w n blk off d hH) hds

    have hcw : ∀ t, t < d.size → wr.cell? ⟨blk, off + t, none⟩ = some (.float .f64 dk[t]!) := fun t ht => (hHk t (by omega)).1
    have hfw : ∀ t, t < d.size → wr.frozen? ⟨blk, off + t, none⟩ = false := fun t ht => (hHk t (by omega)).2
    have A : Aside (wr = putRow encI (Sort.ahead w n) blk off dk) := hwr
    clear hwr hH hHk
    by_cases h0 : hi ≤ 2 * root + 1
    ·
      have h0z : (hi : Int) ≤ 2 * (root : Int) + 1 := by omega
      go_wp2
      go_end0
      refine ⟨rfl, n, ?_⟩
      rw [A.out, ← heq, sd_end ltF dk h0]
    ·
      have h0z : ¬ ((hi : Int) ≤ 2 * (root : Int) + 1) := by omega
      by_cases h1 : 2 * root + 2 < hi
      · have h1z : 2 * (root : Int) + 1 + 1 < (hi : Int) := by omega
        go_wp2_with fail
        go_big_quiet (first | (go_at_call 25; refine Calls.quiet_of_same (cmp_Less_flt _ _ _)))
        go_wp2_with fail
        ·
          have hL : ltF dk[first + 2 * root + 1]! dk[first + 2 * root + 2]! = true := by assumption
          revert nq; intro nq1
          have hcw2 : ∀ t, t < d.size → (wr.drewN nq1).cell? ⟨blk, off + t, none⟩ = some (.float .f64 dk[t]!) := hcw
          have hfw2 : ∀ t, t < d.size → (wr.drewN nq1).frozen? ⟨blk, off + t, none⟩ = false := hfw
          have A2 : Aside (wr.drewN nq1 = putRow encI (Sort.ahead w (n + nq1)) blk off dk) := drewN_world encI A.out nq1
          clear hcw hfw A
          generalize wr.drewN nq1 = wr2 at hcw2 hfw2 A2 ⊢
          go_big_quiet (first | (go_at_call 25; refine Calls.quiet_of_same (cmp_Less_flt _ _ _)))
          go_wp2_with fail
          ·
            have hS : ltF dk[first + root]! dk[first + 2 * root + 2]! = false := by
              have : (!ltF dk[first + root]! dk[first + 2 * root + 2]!) = true := by assumption
              simpa using this
            (try simp only [Exit.inBlock, Exit.then]); refine bodyPost_ret (results_none rfl _ _ _) rfl ?_
            refine ⟨rfl, n + nq1 + nq, ?_⟩
            rw [drewN_world encI A2.out nq, ← heq, sd_right_stop ltF dk h1 hL hS]
          ·
            have hG : ltF dk[first + root]! dk[first + 2 * root + 2]! = true := by
              have : (!ltF dk[first + root]! dk[first + 2 * root + 2]!) = false := by assumption
              simpa using this
            have hcw3 : ∀ t, t < d.size → (wr2.drewN nq).cell? ⟨blk, off + t, none⟩ = some (.float .f64 dk[t]!) := hcw2
            have hfw3 : ∀ t, t < d.size → (wr2.drewN nq).frozen? ⟨blk, off + t, none⟩ = false := hfw2
            have A3 : Aside (wr2.drewN nq = putRow encI (Sort.ahead w (n + nq1 + nq)) blk off dk) := drewN_world encI A2.out nq
            clear hcw2 hfw2 A2
            generalize wr2.drewN nq = wr3 at hcw3 hfw3 A3 ⊢
            go_region
            go_wp2
            go_roundg (hi - (2 * root + 2))
            case measure => omega
            case rel =>
              refine ⟨2 * root + 2, swp dk (first + root) (first + (2 * root + 1 + 1)), n + nq1 + nq + 1, by simp <;> omega, by omega, Nat.le_refl _, by rw [size_swp]; exact hds, swap_world encI (by omega) (by omega) A3.out rfl rfl, ?_⟩
              rw [← heq, sd_right_go ltF dk h1 hL hG]
        ·
          have hL : ltF dk[first + 2 * root + 1]! dk[first + 2 * root + 2]! = false := by assumption
          revert nq; intro nq1
          have hcw2 : ∀ t, t < d.size → (wr.drewN nq1).cell? ⟨blk, off + t, none⟩ = some (.float .f64 dk[t]!) := hcw
          have hfw2 : ∀ t, t < d.size → (wr.drewN nq1).frozen? ⟨blk, off + t, none⟩ = false := hfw
          have A2 : Aside (wr.drewN nq1 = putRow encI (Sort.ahead w (n + nq1)) blk off dk) := drewN_world encI A.out nq1
          clear hcw hfw A
          generalize wr.drewN nq1 = wr2 at hcw2 hfw2 A2 ⊢
          go_big_quiet (first | (go_at_call 25; refine Calls.quiet_of_same (cmp_Less_flt _ _ _)))
          go_wp2_with fail
          ·
            have hS : ltF dk[first + root]! dk[first + 2 * root + 1]! = false := by
              have : (!ltF dk[first + root]! dk[first + 2 * root + 1]!) = true := by assumption
              simpa using this
            (try simp only [Exit.inBlock, Exit.then]); refine bodyPost_ret (results_none rfl _ _ _) rfl ?_
            refine ⟨rfl, n + nq1 + nq, ?_⟩
            rw [drewN_world encI A2.out nq, ← heq, sd_left_stop ltF dk (by omega) (fun _ => hL) hS]
          ·
            have hG : ltF dk[first + root]! dk[first + 2 * root + 1]! = true := by
              have : (!ltF dk[first + root]! dk[first + 2 * root + 1]!) = false := by assumption
              simpa using this
            have hcw3 : ∀ t, t < d.size → (wr2.drewN nq).cell? ⟨blk, off + t, none⟩ = some (.float .f64 dk[t]!) := hcw2
            have hfw3 : ∀ t, t < d.size → (wr2.drewN nq).frozen? ⟨blk, off + t, none⟩ = false := hfw2
            have A3 : Aside (wr2.drewN nq = putRow encI (Sort.ahead w (n + nq1 + nq)) blk off dk) := drewN_world encI A2.out nq
            clear hcw2 hfw2 A2
            generalize wr2.drewN nq = wr3 at hcw3 hfw3 A3 ⊢
            go_region
            go_wp2
            go_roundg (hi - (2 * root + 1))
            case measure => omega
            case rel =>
              refine ⟨2 * root + 1, swp dk (first + root) (first + (2 * root + 1)), n + nq1 + nq + 1, by simp <;> omega, by omega, Nat.le_refl _, by rw [size_swp]; exact hds, swap_world encI (by omega) (by omega) A3.out rfl rfl, ?_⟩
              rw [← heq, sd_left_go ltF dk (by omega) (fun _ => hL) hG]
      ·
        have h1z : decide (2 * (root : Int) + 1 + 1 < (hi : Int)) = false := decide_eq_false (by omega)
        go_wp2_with fail
        go_big_quiet (first | (go_at_call 25; refine Calls.quiet_of_same (cmp_Less_flt _ _ _)))
        go_wp2_with fail
        revert nq; intro nq1
        have hcw2 : ∀ t, t < d.size → (wr.drewN nq1).cell? ⟨blk, off + t, none⟩ = some (.float .f64 dk[t]!) := hcw
        have hfw2 : ∀ t, t < d.size → (wr.drewN nq1).frozen? ⟨blk, off + t, none⟩ = false := hfw
        have A2 : Aside (wr.drewN nq1 = putRow encI (Sort.ahead w (n + nq1)) blk off dk) := drewN_world encI A.out nq1
        clear hcw hfw A
        generalize wr.drewN nq1 = wr2 at hcw2 hfw2 A2 ⊢
        go_big_quiet (first | (go_at_call 25; refine Calls.quiet_of_same (cmp_Less_flt _ _ _)))
        go_wp2_with fail
        ·
          have hS : ltF dk[first + root]! dk[first + 2 * root + 1]! = false := by
            have : (!ltF dk[first + root]! dk[first + 2 * root + 1]!) = true := by assumption
            simpa using this
          (try simp only [Exit.inBlock, Exit.then]); refine bodyPost_ret (results_none rfl _ _ _) rfl ?_
          refine ⟨rfl, n + nq1 + nq, ?_⟩
          rw [drewN_world encI A2.out nq, ← heq, sd_left_stop ltF dk (by omega) (fun h => absurd h h1) hS]
        ·
          have hG : ltF dk[first + root]! dk[first + 2 * root + 1]! = true := by
            have : (!ltF dk[first + root]! dk[first + 2 * root + 1]!) = false := by assumption
            simpa using this
          have hcw3 : ∀ t, t < d.size → (wr2.drewN nq).cell? ⟨blk, off + t, none⟩ = some (.float .f64 dk[t]!) := hcw2
          have hfw3 : ∀ t, t < d.size → (wr2.drewN nq).frozen? ⟨blk, off + t, none⟩ = false := hfw2
          have A3 : Aside (wr2.drewN nq = putRow encI (Sort.ahead w (n + nq1 + nq)) blk off dk) := drewN_world encI A2.out nq
          clear hcw2 hfw2 A2
          generalize wr2.drewN nq = wr3 at hcw3 hfw3 A3 ⊢
          go_region
          go_wp2
          go_roundg (hi - (2 * root + 1))
          case measure => omega
          case rel =>
            refine ⟨2 * root + 1, swp dk (first + root) (first + (2 * root + 1)), n + nq1 + nq + 1, by simp <;> omega, by omega, Nat.le_refl _, by rw [size_swp]; exact hds, swap_world encI (by omega) (by omega) A3.out rfl rfl, ?_⟩
            rw [← heq, sd_left_go ltF dk (by omega) (fun h => absurd h h1) hG]

end Go.Proofs.Qxb6630281a.Own
