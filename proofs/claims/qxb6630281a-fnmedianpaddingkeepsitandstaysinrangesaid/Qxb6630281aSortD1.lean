/- The library's sort at float64 over this program: the kit's walk at int (Derived/Sort/WalkD1), turned by program to this dump's functions and elements. -/
import Derived.Test.Qxb6630281aSort0
import Derived.Sort.LotD3
import Derived.Deep.RegionWith
import Derived.WalkKit
import Derived.RowKit
namespace Go.Proofs.Qxb6630281a.Own
open Go.Sort Go.RowKit
attribute [local go_sem] run_store_flt

abbrev one (s : Nat) : Array Int := #[(s : Int)]

theorem one_cell {w : World} {sb so s : Nat} (h : Holds (Value.int .i64) w sb so (one s)) : w.cell? ⟨sb, so, none⟩ = some (.int .i64 s) ∧ w.frozen? ⟨sb, so, none⟩ = false := by simpa using h 0 (by simp)

theorem one_set {w : World} {sb so s : Nat} (h : Holds (Value.int .i64) w sb so (one s)) (t : Nat) : w.setCell ⟨sb, so, none⟩ (.int .i64 t) = putRow (Value.int .i64) w sb so (one t) := by
  have := putRow_set (Value.int .i64) w sb so (one s) 0 (t : Int) (by simp)
  rw [putRow_self _ _ _ _ _ h] at this
  simpa using this

theorem holds_aside {w : World} {blk off sb so n t : Nat} {d : Array Nat} (h : Holds (Value.float .f64) w blk off d) (hne : sb ≠ blk) : Holds (Value.float .f64) (putRow (Value.int .i64) (Sort.ahead w n) sb so (one t)) blk off d := fun j hj =>
  ⟨by rw [cell?_putRow_other _ _ _ _ _ _ (Or.inl (Ne.symm hne))]; exact (h j hj).1, by rw [frozen?_putRow]; exact (h j hj).2⟩

theorem one_one (w : World) (n m sb so s t : Nat) : putRow (Value.int .i64) (Sort.ahead (putRow (Value.int .i64) (Sort.ahead w n) sb so (one s)) m) sb so (one t) = putRow (Value.int .i64) (Sort.ahead w (n + m)) sb so (one t) :=
  putRow_ahead_putRow _ _ _ _ _ _ _ _ rfl

set_option maxHeartbeats 1000000 in

theorem order2_flt (d : Array Nat) (len : Nat) (hlen : d.size = len) (blk off cap a b sb so s : Nat) (w : World) (hH : Holds (Value.float .f64) w blk off d) (ha : a < d.size) (hb : b < d.size)
    (hS : Holds (Value.int .i64) w sb so (one s)) (hs : s < 2 ^ 62) :
    Calls Try.prog 36 #[.slice (some ⟨blk, off, none⟩) len cap, .int .i64 a, .int .i64 b, .pointer (some ⟨sb, so, none⟩)] w fun e w' =>
      e = .returned (.tuple #[.int .i64 (order2 ltF d a b s).1, .int .i64 (order2 ltF d a b s).2.1]) ∧ ∃ n, w' = putRow (Value.int .i64) (Sort.ahead w n) sb so (one (order2 ltF d a b s).2.2) := by
  subst hlen
  replace hs : s < 4611686018427387904 := by omega
  have ca := (hH a ha).1
  have cb := (hH b hb).1
  obtain ⟨cs, fs⟩ := one_cell hS
  have ea : d[a]! = d[a] := getElem!_pos d a ha
  have eb : d[b]! = d[b] := getElem!_pos d b hb
  go_enter Try.func36, Try.ntmps36
  go_wp2
  go_region_with (go_at_call 25; refine (cmp_Less_flt _ _ _).mono ?_; rintro e w' ⟨rfl, rfl⟩)
  all_goals (try go_wp2)
  all_goals first
    | (have hlt : ltF d[b] d[a] = true := by assumption
       have e2 : order2 ltF d a b s = (b, a, s + 1) := by simp [order2, ea, eb, hlt]
       go_ret2
       rw [e2]
       refine ⟨rfl, 1, ?_⟩
       rw [putRow_ahead, ← one_set hS (s + 1)]
       simp [drew_eq_ahead])
    | (have hlt : ltF d[b] d[a] = false := by assumption
       have e2 : order2 ltF d a b s = (a, b, s) := by simp [order2, ea, eb, hlt]
       go_ret2
       rw [e2]
       refine ⟨rfl, 1, ?_⟩
       rw [putRow_ahead, putRow_self _ _ _ _ _ hS]
       rfl)

theorem order2_lt (d : Array Nat) {a b n : Nat} (s : Nat) (ha : a < n) (hb : b < n) : (order2 ltF d a b s).1 < n ∧ (order2 ltF d a b s).2.1 < n := by
  have := order2_mem ltF d a b s
  omega
theorem order2_swaps (d : Array Nat) (a b s : Nat) : (order2 ltF d a b s).2.2 ≤ s + 1 := by
  unfold order2
  split <;> simp

theorem holds_one {w : World} {sb so s n t : Nat} (h : Holds (Value.int .i64) w sb so (one s)) : Holds (Value.int .i64) (putRow (Value.int .i64) (Sort.ahead w n) sb so (one t)) sb so (one t) :=
  holds_putRow _ _ _ _ (one s) (one t) (holds_ahead _ _ _ _ _ _ h) rfl

set_option maxHeartbeats 1000000 in
set_option maxRecDepth 100000 in

theorem median_flt (d : Array Nat) (len : Nat) (hlen : d.size = len) (blk off cap a b c sb so s : Nat) (w : World) (hH : Holds (Value.float .f64) w blk off d) (ha : a < d.size) (hb : b < d.size) (hc : c < d.size) (hne : sb ≠ blk)
    (hS : Holds (Value.int .i64) w sb so (one s)) (hs : s + 3 < 2 ^ 62) :
    Calls Try.prog 34 #[.slice (some ⟨blk, off, none⟩) len cap, .int .i64 a, .int .i64 b, .int .i64 c, .pointer (some ⟨sb, so, none⟩)] w fun e w' =>
      e = .returned (.int .i64 (median ltF d a b c s).1) ∧ ∃ n, w' = putRow (Value.int .i64) (Sort.ahead w n) sb so (one (median ltF d a b c s).2) := by
  subst hlen
  have l1 := order2_lt d s ha hb
  have s1 := order2_swaps d a b s
  have l2 := order2_lt d (order2 ltF d a b s).2.2 l1.2 hc
  have s2 := order2_swaps d (order2 ltF d a b s).2.1 c (order2 ltF d a b s).2.2
  go_enter Try.func34, Try.ntmps34

  go_wp2_with (go_at_call_of 36 (Value.int .i64 (b : Int)); refine (order2_flt d _ rfl blk off cap a b sb so s w hH ha hb hS (by omega)).mono ?_; rintro e w' ⟨rfl, n1, rfl⟩)
  go_wp2_with (go_at_call_of 36 (Value.int .i64 (c : Int)); refine (order2_flt d _ rfl blk off cap (order2 ltF d a b s).2.1 c sb so (order2 ltF d a b s).2.2 _ (holds_aside hH hne) l1.2 hc (holds_one hS) (by omega)).mono ?_; rintro e w' ⟨rfl, n2, rfl⟩)
  go_wp2_with (go_at_call_of 36 (Value.int .i64 ((order2 ltF d a b s).1 : Int)); refine (order2_flt d _ rfl blk off cap (order2 ltF d a b s).1 (order2 ltF d (order2 ltF d a b s).2.1 c (order2 ltF d a b s).2.2).1 sb so (order2 ltF d (order2 ltF d a b s).2.1 c (order2 ltF d a b s).2.2).2.2 _
    (holds_aside (holds_aside hH hne) hne) l1.1 l2.1 (holds_one (holds_one hS)) (by omega)).mono ?_; rintro e w' ⟨rfl, n3, rfl⟩)
  go_ret
  refine ⟨rfl, n1 + (n2 + n3), ?_⟩
  rw [one_one, one_one]
  rfl

end Go.Proofs.Qxb6630281a.Own
