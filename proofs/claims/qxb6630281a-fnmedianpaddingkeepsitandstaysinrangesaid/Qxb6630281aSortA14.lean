/- The library's sort at float64 over this program: the kit's walk at int (Derived/Sort/WalkA14), turned by program to this dump's functions and elements. -/
import Derived.Test.Qxb6630281aSortA
import Derived.Sort.Grow
import Derived.Sort.LotD1
import Derived.Test.Qxb6630281aBits
namespace Go.Proofs.Qxb6630281a.Own
open Go.RowKit Go.Sort
attribute [local go_sem] run_store_flt

theorem bitLen_eq (x : Nat) (h : x < 2 ^ 64) : Lib.bitLen x = bitsLen x := by
  induction x using Nat.strongRecOn with
  | _ x ih =>
    by_cases h0 : x = 0
    · subst h0; rfl
    · rw [Lib.bitLen_half x h0 h, ih (x / 2) (by omega) (by omega)]
      unfold bitsLen
      rw [if_neg h0, Nat.log2_def x]
      by_cases h2 : 2 ≤ x
      · rw [if_pos h2, if_neg (by omega)]; omega
      · obtain rfl : x = 1 := by omega
        simp

def pdqWalk_flt : Prop := ∀ (blk off cap a b limit : Nat) (d : Array Nat) (w : World), Holds (Value.float .f64) w blk off d → blk < w.heap.size → a ≤ b → b ≤ d.size → d.size < 4611686018427387904 → limit < 4611686018427387904 → Below ltF a b d →
  Calls Try.prog 17 #[.slice (some ⟨blk, off, none⟩) d.size cap, .int .i64 a, .int .i64 b, .int .i64 limit] w fun e w' =>
    e = .returned (.tuple #[]) ∧ ∃ n os, w' = grow (putRow (Value.float .f64) (Sort.ahead w n) blk off (Sort.pdq ltF d a b limit true true)) os
set_option maxRecDepth 100000 in

theorem Sort_flt (hpdq : pdqWalk_flt) (blk off cap : Nat) (d : Array Nat) (w : World) (hH : Holds (Value.float .f64) w blk off d) (hblk : blk < w.heap.size) (hsz : d.size < 4611686018427387904) :
    Calls Try.prog 14 #[.slice (some ⟨blk, off, none⟩) d.size cap] w fun e w' => e = .returned (.tuple #[]) ∧ ∃ n os, w' = grow (putRow (Value.float .f64) (Sort.ahead w n) blk off (Sort.sort ltF d)) os := by
  have HH : Hid (Holds (Value.float .f64) w blk off d) := hH
  clear hH
  have hLen : ∀ w, Calls Try.prog 18 #[.int .u64 (d.size : Int)] w fun e w' => e = .returned (.int .i64 (bitsLen d.size : Nat)) ∧ w' = w := fun w => by
    have h := bits_Len (d.size : Int) w (by omega) (by omega)
    rwa [Int.toNat_natCast, bitLen_eq _ (by omega)] at h
  have hk : bitsLen d.size ≤ 62 := (bitsLen_le_iff d.size 62).2 (by omega)
  go_enter Try.func14, Try.ntmps14
  go_wp2_with (first
    | (go_at_call 18; refine (hLen _).mono ?_; rintro e w' ⟨rfl, rfl⟩)
    | (go_at_call 17; refine (hpdq blk off cap 0 d.size (bitsLen d.size) d _ (by exact HH.out) (by exact hblk) (Nat.zero_le _) (Nat.le_refl _) hsz (by omega) (Or.inl rfl)).mono ?_; rintro e w' ⟨rfl, n, os, rfl⟩))
  go_end0
  exact ⟨rfl, n, os, rfl⟩

end Go.Proofs.Qxb6630281a.Own
