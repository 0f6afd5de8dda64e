/- The library's sort at float64 over this program: the kit's walk at int (Derived/Sort/WalkB12), turned by program to this dump's functions and elements. -/
import Derived.Test.Qxb6630281aSort0
import Derived.WalkKit
import Derived.Deep.LoopGhost
namespace Go.Proofs.Qxb6630281a.Own
open Go.Sort Go.RowKit
attribute [local go_sem] run_store_flt

abbrev encI : Nat → Value := fun x => Value.float .f64 x

theorem swap_world {α : Type} [Inhabited α] (enc : α → Value) {w wr : World} {n blk off : Nat} {dk : Array α} {i j : Nat} (hi : i < dk.size) (hj : j < dk.size) (hwr : wr = putRow enc (Sort.ahead w n) blk off dk)
    {x y : Value} (hx : x = enc dk[j]!) (hy : y = enc dk[i]!) : ((wr.setCell ⟨blk, off + i, none⟩ x).setCell ⟨blk, off + j, none⟩ y).drew = putRow enc (Sort.ahead w (n + 1)) blk off (swp dk i j) := by
  subst hwr; subst hx; subst hy
  rw [putRow_swp enc _ blk off dk i j hi hj, ← ahead_drew]
  rfl

set_option maxHeartbeats 1600000 in
set_option maxRecDepth 1000000 in
theorem reverseRange_flt (blk off cap : Nat) (d : Array Nat) (a b : Nat) (w : World) (hH : Holds encI w blk off d) (hab : a ≤ b) (hb : b ≤ d.size) (hsz : d.size < 4611686018427387904) :
    Calls Try.prog 23 #[.slice (some ⟨blk, off, none⟩) d.size cap, .int .i64 a, .int .i64 b] w fun e w' => e = .returned (.tuple #[]) ∧ ∃ n, w' = putRow encI (Sort.ahead w n) blk off (reverseRange d a b) := by
  go_enter Try.func23, Try.ntmps23
  go_wp2
  go_loopg [6, 7] (b - a) (fun k s6 s7 wr => ∃ (i jn : Nat) (jz : Int) (dk : Array Nat) (n : Nat), s6 = .int .i64 i ∧ s7 = .int .i64 jz ∧ ((i : Int) < jz → jz = jn ∧ jn < d.size) ∧ (¬ (i : Int) < jz → ¬ i < jn) ∧ jn - i ≤ k ∧
    dk.size = d.size ∧ wr = putRow encI (Sort.ahead w n) blk off dk ∧ reverseLoop i jn dk = reverseLoop a (b - 1) d)
  case atStart => exact ⟨a, b - 1, (b : Int) - 1, d, 0, rfl, rfl, fun h => ⟨by omega, by omega⟩, fun h => by omega, by omega, rfl, (putRow_self encI w blk off d hH).symm, rfl⟩
  case round =>
    obtain ⟨i, jn, jz, dk, n, rfl, rfl, h1, h2, hk, hds, hwr, heq⟩ := hrel
    by_cases hlt : (i : Int) < jz
    · obtain ⟨rfl, hjn⟩ := h1 hlt
      have hij : i < jn := by omega
      have hHk : Holds encI wr blk off dk := by rw [hwr]; exact holds_putRow encI _ blk off d dk (holds_ahead encI w n blk off d hH) hds
      obtain ⟨ci, fi⟩ := hHk i (by omega)
      obtain ⟨cj, fj⟩ := hHk jn (by omega)
      have A : Aside (wr = putRow encI (Sort.ahead w n) blk off dk) := hwr
      clear hwr hHk hH h1 h2
      go_wp2_with fail
      go_region
      go_wp2
      go_roundg (jn - 1 - (i + 1))
      case measure => omega
      case rel =>
        rw [reverseLoop, if_pos hij] at heq
        exact ⟨i + 1, jn - 1, (jn : Int) - 1, swp dk i jn, n + 1, by simp, rfl, fun h => ⟨by omega, by omega⟩, fun h => by omega, Nat.le_refl _, by rw [size_swp]; exact hds,
          swap_world encI (by omega) (by omega) A.out (by simp [encI, getElem!_pos, show jn < dk.size by omega]) rfl, heq⟩
    · have hnot := h2 hlt
      go_wp2
      go_end0
      refine ⟨rfl, n, ?_⟩
      rw [reverseLoop, if_neg hnot] at heq
      rw [reverseRange, ← heq]

end Go.Proofs.Qxb6630281a.Own
