/- The library's sort at float64 over this program: the kit's walk at int (Derived/Sort/WalkD2), turned by program to this dump's functions and elements. -/
import Derived.Test.Qxb6630281aSortD1
namespace Go.Proofs.Qxb6630281a.Own
open Go.Sort Go.RowKit
attribute [local go_sem] run_store_flt
set_option maxHeartbeats 1000000 in
set_option maxRecDepth 100000 in

theorem medianAdjacent_flt (d : Array Nat) (len : Nat) (hlen : d.size = len) (blk off cap a sb so s : Nat) (w : World) (hH : Holds (Value.float .f64) w blk off d) (ha0 : 1 ≤ a) (ha : a + 1 < d.size) (hsz : d.size < 2 ^ 62) (hne : sb ≠ blk)
    (hS : Holds (Value.int .i64) w sb so (one s)) (hs : s + 3 < 2 ^ 62) :
    Calls Try.prog 33 #[.slice (some ⟨blk, off, none⟩) len cap, .int .i64 a, .pointer (some ⟨sb, so, none⟩)] w fun e w' =>
      e = .returned (.int .i64 (medianAdjacent ltF d a s).1) ∧ ∃ n, w' = putRow (Value.int .i64) (Sort.ahead w n) sb so (one (medianAdjacent ltF d a s).2) := by
  subst hlen
  replace hsz : d.size < 4611686018427387904 := by omega
  go_enter Try.func33, Try.ntmps33
  go_wp2_with (go_at_call 34; rw [show ((a : Int) - 1) = ((a - 1 : Nat) : Int) by omega, show ((a : Int) + 1) = ((a + 1 : Nat) : Int) by omega]; refine (median_flt d _ rfl blk off cap (a - 1) a (a + 1) sb so s w hH (by omega) (by omega) ha hne hS hs).mono ?_; rintro e w' ⟨rfl, n1, rfl⟩)
  go_ret
  exact ⟨rfl, n1, rfl⟩

end Go.Proofs.Qxb6630281a.Own
