/-
  (rules.Rule).String at no condition (a slice of no element: nil, or an empty one wherever it points).
-/
import Derived.Test.Qxb6630326aString
set_option linter.unusedSimpArgs false
namespace Go.Proofs.Qxb6630326a.Own
open Go.RowKit

set_option maxHeartbeats 2000000 in
set_option maxRecDepth 100000 in
theorem string_nil (deny : Bool) (action : ByteArray) (ao : Option Addr) (cp : Nat) (w : World) (hsz : action.size ≤ 4194304) :
    Calls Try.prog 8 #[.agg #[.bool deny, .string action, .slice ao 0 cp]] w fun e w' => e = .returned (.string ⟨(text deny action []).toArray⟩) ∧ Below w.heap.size w w' := by
  have hB0 := (Lib.IsBuilderF.of (Lib.fresh_isBuilder 39 5 (w.alloc (.cells #[.bool deny, .string action, .slice ao 0 cp] 30))))
  have hw1 : (w.alloc (.cells #[.bool deny, .string action, .slice ao 0 cp] 30)).heap.size = w.heap.size + 1 := by simp
  rw [hw1] at hB0
  have hBl : Below (w.heap.size + 1) (w.alloc (.cells #[.bool deny, .string action, .slice ao 0 cp] 30)) ((w.alloc (.cells #[.bool deny, .string action, .slice ao 0 cp] 30)).alloc (.cells #[.pointer none, .slice none 0 0] 39)) := (Below.refl _ _).alloc (by rw [hw1]; exact Nat.le_refl _) _
  have hout : ∀ W : World, Below (w.heap.size + 1) (w.alloc (.cells #[.bool deny, .string action, .slice ao 0 cp] 30)) W → Below w.heap.size w W := fun W h => ((Below.refl _ w).alloc (Nat.le_refl _) _).trans (h.mono (by omega))
  have hrec : ∀ W : World, Below (w.heap.size + 1) (w.alloc (.cells #[.bool deny, .string action, .slice ao 0 cp] 30)) W → W.cell? ⟨w.heap.size, 2, none⟩ = some (.slice ao 0 cp) := by
    intro W h
    rw [h.cell (p := ⟨w.heap.size, 2, none⟩) (by simp)]; simp
  have Hrec := hid hrec
  have Hout := hid hout
  clear hrec hout
  cases deny
  case' false =>
    go_enter Try.func8, Try.ntmps8
    go_wp2_with fail
    refine (writeString (w.heap.size + 1) (w.heap.size + 1) _ action _ hB0 (by simp; omega) (by simp)).mono ?_
    rintro e W1 ⟨rfl, h1, b1, k1⟩
    obtain ⟨hd, Hhd, hI1⟩ : ∃ hd, Hid (hd = text false action []) ∧ Lib.IsBuilderF 39 5 (w.heap.size + 1) (w.heap.size + 1) (Lib.byteCells hd) W1 := ⟨headT false action, hid (by simp [text, tailT]), Or.inr h1⟩
  case' true =>
    go_enter Try.func8, Try.ntmps8
    go_wp2_with fail
    refine (writeByte (w.heap.size + 1) (w.heap.size + 1) _ 33 _ hB0 (by simp) (by simp)).mono ?_
    rintro e W0 ⟨rfl, h0, b0, k0⟩
    have hb0 := hBl.trans b0
    have r1 : W0.cell? ⟨w.heap.size, 1, none⟩ = some (.string action) := by
      rw [hb0.cell (p := ⟨w.heap.size, 1, none⟩) (by simp)]; simp
    have s0 : w.heap.size + 1 ≤ W0.heap.size := by have := hb0.size; simp at this; omega
    go_wp2_with fail
    refine (writeString (w.heap.size + 1) (w.heap.size + 1) _ action _ (Or.inr h0) (by simp; omega) s0).mono ?_
    rintro e W1 ⟨rfl, h1, b1', k1⟩
    have b1 := b0.trans b1'
    obtain ⟨hd, Hhd, hI1⟩ : ∃ hd, Hid (hd = text true action []) ∧ Lib.IsBuilderF 39 5 (w.heap.size + 1) (w.heap.size + 1) (Lib.byteCells hd) W1 := ⟨headT true action, hid (by simp [text, tailT]), Or.inr h1⟩
    clear r1 h0 hb0 k0 b1' b0 s0
  all_goals
    have hb1 := hBl.trans b1
    have r2 := Hrec.out W1 hb1
    have hBs : w.heap.size + 1 < W1.heap.size := by
      rcases hI1 with h | h
      · exact h.lt
      · exact h.lt
    clear h1 k1 b1 hBl hB0 hw1
    go_wp2
    go_loop [15] (fun i => i = .int .i64 0) (fun i => 0)
    case atStart => rfl
    case round =>
      subst hrel
      go_wp2_with fail
      refine (Try.Builder_String_any_k (w.heap.size + 1) (w.heap.size + 1) _ _ hI1 (Nat.le_of_lt hBs)).mono ?_
      rintro e V1 ⟨rfl, _, b1, _⟩
      go_wp2
      go_ret
      exact ⟨ret_str Hhd.out, Hout.out _ (hb1.trans b1)⟩

/-- Where the conditions lie, as a value: of no element, or a slice of cells. -/
def ParamsAt (w : World) (v : Value) (ps : List Pm) : Prop :=
  (∃ ao cp, v = .slice ao 0 cp ∧ ps = []) ∨ ∃ b off cap, v = .slice (some ⟨b, off, none⟩) ps.length cap ∧ b < w.heap.size ∧ PsAt w b off ps

theorem ParamsAt.below {w w' : World} {v : Value} {ps : List Pm} {B : Nat} (h : ParamsAt w v ps) (hb : Below B w w') (hB : w.heap.size ≤ B) : ParamsAt w' v ps := by
  rcases h with h | ⟨b, off, cap, rfl, h1, h2⟩
  · exact Or.inl h
  · refine Or.inr ⟨b, off, cap, rfl, Nat.lt_of_lt_of_le h1 hb.size, fun i hi => ?_⟩
    have e : ∀ j, w'.cell? ⟨b, j, none⟩ = w.cell? ⟨b, j, none⟩ := fun j => hb.cell (p := ⟨b, j, none⟩) (by show b < B; omega)
    rw [e, e, e, e]
    exact h2 i hi

theorem string_any (deny : Bool) (action : ByteArray) (ps : List Pm) (v : Value) (w : World) (hps : ParamsAt w v ps) (hn : ps.length ≤ 1048576) (hsz : action.size + total ps ≤ 4194304) :
    Calls Try.prog 8 #[.agg #[.bool deny, .string action, v]] w fun e w' => e = .returned (.string ⟨(text deny action ps).toArray⟩) ∧ Below w.heap.size w w' := by
  rcases hps with ⟨ao, cp, rfl, rfl⟩ | ⟨b, off, cap, rfl, h1, h2⟩
  · exact string_nil deny action ao cp w (by omega)
  · exact string_some deny action ps b off cap w h1 h2 hn hsz
end Go.Proofs.Qxb6630326a.Own
