/-
  What both laws share: make and copy at []float64.
-/
import Derived.Test.Qxb6630281aMedian
import Derived.Test.Qxb6630281aStat
import Derived.Laws.CopyOwn
import Derived.Laws.MakeOwn
import Derived.Deep.OwnRows
import Derived.WalkSpells
namespace Go.Proofs.Qxb6630281a.Own
open Go.RowKit
theorem size24 : (Try.prog.info? 24).map (·.size) = some 1 := by kernel_rfl
theorem make22 (n : Nat) (hn : n ≤ 1048576) (w : World) : (Instr.makeSlice 22 (.int .i64 (n : Int)) (.int .i64 (n : Int))).run Try.prog w = .ok (.slice (some ⟨w.heap.size, 0, none⟩) n n) (w.alloc (.cells (madeCells #[.float .f64 0] n) 24)) :=
  run_make_row' 22 24 (.float .f64 0) 8 Try.underlying22 info24 rfl .i64 .i64 n (by omega) (by omega) w
/-- the float cells of a slice -/
def FltAt (w : World) (b off n : Nat) (G : Nat → Nat) : Prop := ∀ j, j < n → w.cell? ⟨b, off + j, none⟩ = some (.float .f64 (G j))
theorem FltAt.below {w w' : World} {b off n B : Nat} {G : Nat → Nat} (h : FltAt w b off n G) (hB : Below B w w') (hb : b < B) : FltAt w' b off n G := fun j hj => (hB.cell (p := ⟨b, off + j, none⟩) hb).trans (h j hj)
theorem flt_of_splice (W : World) (g n : Nat) (F : Nat → Nat) (h : W.heap[g]? = some (.cells (splice (madeCells #[.float .f64 0] n).toList 0 ((List.range n).map fun i => Value.float .f64 (F i))).toArray 24 (0, 0))) : FltAt W g 0 n F := by
  have hl : (madeCells #[.float .f64 0] n).toList.length = n := by rw [Array.length_toList]; exact size_madeCells _ _
  have e : splice (madeCells #[.float .f64 0] n).toList 0 ((List.range n).map fun i => Value.float .f64 (F i)) = (List.range n).map fun i => Value.float .f64 (F i) := by
    unfold splice
    rw [List.take_zero, List.nil_append, List.drop_of_length_le (by simp [hl]), List.append_nil]
  rw [e] at h
  intro j hj
  rw [Nat.zero_add]
  simp [World.cell?, h, hj]
end Go.Proofs.Qxb6630281a.Own
