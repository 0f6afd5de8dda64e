/-
  FnHasSameOnRepeatedFilter at every argument.
-/
import Derived.Test.Qxb6630360aSame
set_option linter.unusedSimpArgs false
namespace Go.Proofs.Qxb6630360a.Own
open Go.RowKit

set_option maxHeartbeats 1000000 in
theorem same_big (ao : Option Addr) (n cap : Nat) (ks : Array Value) (r : Int) (w : World) (hsz : ks.size = 32) (h : 131072 < n ∨ n = 0) :
    Calls Try.prog 4 #[.slice ao n cap, .agg ks, .int .i64 r] w fun e w' => e = .returned (.bool true) ∧ Below w.heap.size w w' := by
  have hl23 : (Try.prog.info? 23).map (·.size) = some ks.size := by rw [hsz]; exact size23
  have hg0 : (w.alloc (.cells ks 23)).heap[w.heap.size]? = some (.cells ks 23 (0, 0)) := heap_alloc_new w _
  have hb0 := (Below.refl _ w).alloc (Nat.le_refl _) (.cells ks 23)
  by_cases hn : 1048576 < n
  · go_enter Try.func4, Try.ntmps4
    go_wp2_with (refine wpList_load_row rfl 23 _ rfl w.heap.size rfl 23 ks (0, 0) _ hg0 Try.underlying23 rfl hl23 ?_)
    refine (bytes9_no _ _ _ _ _ _ hn).mono ?_
    rintro e W0 ⟨rfl, b0⟩
    have hB := hb0.trans (b0.mono (by simp))
    go_wp2
    go_ret
    exact ⟨rfl, hB⟩
  · rcases h with h | h
    · go_enter Try.func4, Try.ntmps4
      go_wp2_with (refine wpList_load_row rfl 23 _ rfl w.heap.size rfl 23 ks (0, 0) _ hg0 Try.underlying23 rfl hl23 ?_)
      refine (bytes9_yes _ _ _ _ _ _ (by omega)).mono ?_
      rintro e W0 ⟨rfl, b0⟩
      have hB := hb0.trans (b0.mono (by simp))
      go_wp2
      go_ret
      exact ⟨rfl, hB⟩
    · subst h
      go_enter Try.func4, Try.ntmps4
      go_wp2_with (refine wpList_load_row rfl 23 _ rfl w.heap.size rfl 23 ks (0, 0) _ hg0 Try.underlying23 rfl hl23 ?_)
      refine (bytes9_yes _ _ _ _ _ _ (by omega)).mono ?_
      rintro e W0 ⟨rfl, b0⟩
      have hB := hb0.trans (b0.mono (by simp))
      go_wp2
      go_ret
      exact ⟨rfl, hB⟩

set_option maxHeartbeats 1000000 in
theorem same_out (ao : Option Addr) (n cap : Nat) (ks : Array Value) (r : Int) (w : World) (hsz : ks.size = 32) (h1 : 1 ≤ n) (h2 : n ≤ 131072) (h : r < 1 ∨ (1 ≤ r ∧ 65536 < r) ∨ (1 ≤ r ∧ r ≤ 65536 ∧ 131072 < (n : Int) * r)) :
    Calls Try.prog 4 #[.slice ao n cap, .agg ks, .int .i64 r] w fun e w' => e = .returned (.bool true) ∧ Below w.heap.size w w' := by
  have hl23 : (Try.prog.info? 23).map (·.size) = some ks.size := by rw [hsz]; exact size23
  have hg0 : (w.alloc (.cells ks 23)).heap[w.heap.size]? = some (.cells ks 23 (0, 0)) := heap_alloc_new w _
  have hb0 := (Below.refl _ w).alloc (Nat.le_refl _) (.cells ks 23)
  rcases h with h | ⟨h3, h⟩ | ⟨h3, h4, h⟩
  · go_enter Try.func4, Try.ntmps4
    go_wp2_with (refine wpList_load_row rfl 23 _ rfl w.heap.size rfl 23 ks (0, 0) _ hg0 Try.underlying23 rfl hl23 ?_)
    refine (bytes9_yes _ _ _ _ _ _ (by omega)).mono ?_
    rintro e W0 ⟨rfl, b0⟩
    have hB := hb0.trans (b0.mono (by simp))
    go_wp2
    go_ret
    exact ⟨rfl, hB⟩
  · go_enter Try.func4, Try.ntmps4
    go_wp2_with (refine wpList_load_row rfl 23 _ rfl w.heap.size rfl 23 ks (0, 0) _ hg0 Try.underlying23 rfl hl23 ?_)
    refine (bytes9_yes _ _ _ _ _ _ (by omega)).mono ?_
    rintro e W0 ⟨rfl, b0⟩
    have hB := hb0.trans (b0.mono (by simp))
    go_wp2
    go_ret
    exact ⟨rfl, hB⟩
  · obtain ⟨m, hm⟩ : ∃ m : Int, (n : Int) * r = m := ⟨_, rfl⟩
    have hub : m ≤ 131072 * 65536 := by
      rw [← hm]
      exact Int.mul_le_mul (by omega) h4 (by omega) (by omega)
    rw [hm] at h
    go_enter Try.func4, Try.ntmps4
    go_wp2_with (refine wpList_load_row rfl 23 _ rfl w.heap.size rfl 23 ks (0, 0) _ hg0 Try.underlying23 rfl hl23 ?_)
    refine (bytes9_yes _ _ _ _ _ _ (by omega)).mono ?_
    rintro e W0 ⟨rfl, b0⟩
    have hB := hb0.trans (b0.mono (by simp))
    go_wp2
    go_ret
    exact ⟨rfl, hB⟩

theorem same_all (v kv : Value) (ks : Array Value) (K : Nat → UInt8) (r : Int) (w : World) (hv : IsWords w v) (hk : IsKey kv ks K) :
    Calls Try.prog 4 #[v, kv, .int .i64 r] w fun e w' => e = .returned (.bool true) ∧ Below w.heap.size w w' := by
  obtain ⟨rfl, hsz, hks⟩ := hk
  rcases hv with ⟨ao, cap, rfl⟩ | ⟨b, off, n, cap, F, rfl, h1, hb, hF⟩
  · exact same_big ao 0 cap ks r w hsz (Or.inr rfl)
  · by_cases h2 : n ≤ 131072
    · by_cases hr : 1 ≤ r ∧ r ≤ 65536 ∧ (n : Int) * r ≤ 131072
      · obtain ⟨g1, g2, g3⟩ := hr
        obtain ⟨rr, rfl⟩ : ∃ rr : Nat, r = rr := ⟨r.toNat, by omega⟩
        refine same_some b off n cap rr F ks K w hks hsz h1 h2 (by omega) (by omega) ?_ hb hF
        have : ((n * rr : Nat) : Int) ≤ 131072 := by rw [Int.natCast_mul]; exact g3
        omega
      · refine same_out _ n cap ks r w hsz h1 h2 ?_
        by_cases g1 : r < 1
        · exact Or.inl g1
        · by_cases g2 : 65536 < r
          · exact Or.inr (Or.inl ⟨by omega, g2⟩)
          · refine Or.inr (Or.inr ⟨by omega, by omega, ?_⟩)
            have : ¬ (n : Int) * r ≤ 131072 := fun g3 => hr ⟨by omega, by omega, g3⟩
            omega
    · exact same_big _ n cap ks r w hsz (Or.inl (by omega))
end Go.Proofs.Qxb6630360a.Own
