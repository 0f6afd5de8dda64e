/-
  bench.Median: the middle of the sorted slice, or the mean of the two middles.
-/
import Derived.Test.Qxb6630281aSortTop
import Derived.Laws.FloatArith
import Derived.Sort.WalkA6
namespace Go.Proofs.Qxb6630281a.Own
open Go.Sort Go.RowKit Go.Shelf

def twoB : Nat := 4611686018427387904
/-- the bits that an operation gives: the exact result rounded; where there is none, some not-a-number that the tape names -/
def arR (op : BinOp) (x y t : Nat) : Prop := match floatBits op .f64 x y with | some v => t = v | none => isNaNB t = true
/-- (lo + hi) / 2 -/
def Mean (a b r : Nat) : Prop := ∃ t, arR .add a b t ∧ arR .quo t twoB r
def Med (zs : List Nat) (r : Nat) : Prop := if zs.length % 2 = 1 then r = (sorted zs)[zs.length / 2]?.getD 0 else Mean ((sorted zs)[zs.length / 2 - 1]?.getD 0) ((sorted zs)[zs.length / 2]?.getD 0) r

def arT (op : BinOp) (w : World) (x y : Nat) : Nat := match floatBits op .f64 x y with | some v => v | none => (Question.nanBits .f64 x y).cut (w.tape w.drawn (.nanBits .f64 x y))
def arW (op : BinOp) (w : World) (x y : Nat) : World := match floatBits op .f64 x y with | some _ => w | none => w.drew

theorem arT_spec (op : BinOp) (w : World) (x y : Nat) : arR op x y (arT op w x y) := by
  unfold arR arT
  cases floatBits op .f64 x y with
  | some v => rfl
  | none =>
    simp only [Question.cut]
    unfold isNaNB rung infR
    refine decide_eq_true ?_
    generalize w.tape w.drawn (.nanBits .f64 x y) = t
    have h1 : t / 2 % (2 ^ 52 - 1) < 2 ^ 52 - 1 := Nat.mod_lt _ (by decide)
    generalize t / 2 % (2 ^ 52 - 1) = c at h1 ⊢
    rcases Nat.mod_two_eq_zero_or_one t with h | h <;> rw [h] <;> omega

theorem run_arith_add {P : Program} {w : World} (t : TypeId) (x y : Nat) : (binOp .add t (.float .f64 x) (.float .f64 y)).run P w = .ok (.float .f64 (arT .add w x y)) (arW .add w x y) := by
  unfold arT arW
  cases h : floatBits .add .f64 x y with
  | some v => exact run_float_arith w .add t .f64 x y v h
  | none =>
    have h' : FloatKind.f64.format.add x y = none := h
    simp [binOp, Op.floatArith, h', go_sem]
theorem run_arith_quo {P : Program} {w : World} (t : TypeId) (x y : Nat) : (binOp .quo t (.float .f64 x) (.float .f64 y)).run P w = .ok (.float .f64 (arT .quo w x y)) (arW .quo w x y) := by
  unfold arT arW
  cases h : floatBits .quo .f64 x y with
  | some v => exact run_float_arith w .quo t .f64 x y v h
  | none =>
    have h' : FloatKind.f64.format.div x y = none := h
    simp [binOp, Op.floatArith, h', go_sem]
theorem arW_below (op : BinOp) {B : Nat} {w0 w : World} (x y : Nat) (h : Below B w0 w) : Below B w0 (arW op w x y) := by
  unfold arW
  cases floatBits op .f64 x y with
  | some v => exact h
  | none => exact h.drew
theorem arW_cell (op : BinOp) (w : World) (x y : Nat) (a : Addr) : (arW op w x y).cell? a = w.cell? a := by
  unfold arW
  cases floatBits op .f64 x y <;> rfl

attribute [local go_sem] run_arith_add run_arith_quo

set_option maxRecDepth 100000 in
set_option maxHeartbeats 2000000 in
theorem median_in (b off cap : Nat) (zs : List Nat) (hne : zs ≠ []) (hlen : zs.length ≤ 1048578) (w : World) (hb : b < w.heap.size) (hc : ∀ j, j < zs.length → w.cell? ⟨b, off + j, none⟩ = some (.float .f64 (zs[j]?.getD 0))) :
    Calls Try.prog 6 #[.slice (some ⟨b, off, none⟩) zs.length cap] w fun e w' => (∃ r, e = .returned (.float .f64 r) ∧ Med zs r) ∧ Below w.heap.size w w' := by
  have hl := sorted_length zs
  have hpos : 0 < zs.length := List.length_pos_iff.2 hne
  obtain ⟨N, hN⟩ : ∃ N, zs.length = N := ⟨_, rfl⟩
  have hB0 : Below w.heap.size w (w.alloc (.cells #[.slice (some ⟨b, off, none⟩) zs.length cap] 22)) := (Below.refl _ w).alloc (Nat.le_refl _) _
  have bN := Boxed.new w 22 (.slice (some ⟨b, off, none⟩) zs.length cap)
  have cV := callsIn_wide.1 (values_in Fence.wide 1 trivial rfl (some ⟨b, off, none⟩) zs.length cap w)
  have cS := callsIn_wide.1 (sorted_in 15 #[.pointer (some ⟨w.heap.size, 0, none⟩)] (enters_of Try.func15 (by kernel_rfl) rfl) zs hne (by omega) (w.alloc (.cells #[.slice (some ⟨b, off, none⟩) zs.length cap] 22))
    (fun W hW => (values_stops Fence.wide 1 trivial rfl (by omega) w.heap.size _ _ zs (by omega) W (by have := hW.size; simp at this; omega) hW.size ((hW.cell (p := ⟨w.heap.size, 0, none⟩) (by simp)).trans bN.cell)
      ⟨b, off, cap, rfl, by simp; omega, fun j hj => (hW.cell (p := ⟨b, off + j, none⟩) (by simp; omega)).trans ((hB0.cell (p := ⟨b, off + j, none⟩) hb).trans (hc j hj))⟩)))
  clear hc
  rw [hN] at cV cS ⊢
  go_enter Try.func6, Try.ntmps6
  go_wp2_with (first
    | (go_at_call 11; refine cV.mono ?_; rintro e w' ⟨rfl, rfl⟩; clear cV)
    | (go_at_call 10; refine cS.mono ?_; rintro e w' ⟨gb, cap', rfl, hbase, hH, hBel⟩; clear cS
       have hcell : ∀ j, j < N → w'.cell? ⟨gb, j, none⟩ = some (.float .f64 ((sorted zs)[j]?.getD 0)) := fun j hj => by
         have h := (hH j (by simp; omega)).1
         rw [Nat.zero_add] at h
         rw [h]
         simp [List.getElem!_eq_getElem?_getD]
       have c1 := hcell (N / 2) (by omega)
       have c0 : N % 2 = 1 ∨ w'.cell? ⟨gb, N / 2 - 1, none⟩ = some (.float .f64 ((sorted zs)[N / 2 - 1]?.getD 0)) := (Nat.mod_two_eq_zero_or_one N).elim (fun h => .inr (hcell _ (by omega))) .inl
       clear hH hcell))
  · have ht := ‹((N : Int) % 2 == 1) = true›
    have hodd : N % 2 = 1 := by
      have := of_decide_eq_true ht
      omega
    go_ret
    refine ⟨⟨_, rfl, ?_⟩, ?_⟩
    · unfold Med
      rw [hN, if_pos hodd]
    · exact hB0.trans (by rw [hN]; exact hBel.mono (by simp))
  · have heven : ¬ N % 2 = 1 := by
      intro h
      have ht := ‹((N : Int) % 2 == 1) = false›
      have := of_decide_eq_false ht
      omega
    have c0' := c0.resolve_left heven
    clear c0
    go_region
    go_wp2
    go_ret
    refine ⟨⟨_, rfl, ?_⟩, ?_⟩
    · unfold Med
      rw [hN, if_neg heven]
      exact ⟨_, arT_spec .add _ _ _, arT_spec .quo _ _ _⟩
    · exact arW_below _ _ _ (arW_below _ _ _ (hB0.trans (by rw [hN]; exact (hBel.mono (by simp)).drew)))
end Go.Proofs.Qxb6630281a.Own
