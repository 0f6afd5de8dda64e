/-
  The arguments opened: a slice of float64.
-/
import Derived.Test.Qxb6630281aPlain
import Derived.ProofKit
import Derived.OpenShut
import Derived.Deep.Slices
import Derived.Laws.Cover2
namespace Go.Proofs.Qxb6630281a.Own
open Go.ChangeShapes Go.WideShapes Go.ChangeAt Go.RowKit

theorem cells24 : Try.prog.cellsOf 24 = 1 := by kernel_rfl

/-- what the walk is told of the slice: no element; or floats in memory -/
def IsFlts (w : World) (v : Value) : Prop := (∃ ao cap, v = .slice ao 0 cap) ∨ ∃ b off n cap G, v = .slice (some ⟨b, off, none⟩) n cap ∧ 1 ≤ n ∧ n < 9223372036854775808 ∧ b < w.heap.size ∧ FltAt w b off n G ∧ ∀ j, j < n → G j < 18446744073709551616

theorem trod_float {H : Type} {enc : TypeId × Value → H} {w : World} {base : Nat} {spare : Nat → Bool} {held : Bool} {n : Nat} {v : Value} {x : DataW H × List MemPlace} (h : DataW.trod enc Try.prog w base spare held n 24 [v] = some x) :
    ∃ b, v = .float .f64 b ∧ b < 18446744073709551616 := by
  cases n with
  | zero => simp [DataW.trod] at h
  | succ n =>
    simp only [DataW.trod, Try.underlying24] at h
    cases v <;> simp at h
    obtain ⟨⟨rfl, hw⟩, _⟩ := h
    refine ⟨_, rfl, ?_⟩
    simpa [Lit.wf] using hw

theorem open_flts {H : Type} {enc : TypeId × Value → H} {w : World} {spare : Nat → Bool} {held : Bool} {fuel : Nat} {v : Value} {x : DataW H × List MemPlace}
    (h : DataW.trod enc Try.prog w 0 spare held fuel 22 [v] = some x) : IsFlts w v := by
  rcases Deep.open_slice1 Try.underlying22 cells24 h with ⟨hcs, _⟩ | ⟨a, len, cap, m, n, V, D, Pl, hcs, _, hl, hm, hmm, _, hx⟩
  · simp at hcs
    subst hcs
    exact Or.inl ⟨_, _, rfl⟩
  · simp at hcs
    subst hcs
    by_cases h0 : len = 0
    · subst h0
      exact Or.inl ⟨_, _, rfl⟩
    · have hml : len ≤ m := by rw [hmm]; split <;> omega
      have each : ∀ j, j < len → ∃ c : Nat, w.cell? (a.add j) = some (.float .f64 c) ∧ c < 18446744073709551616 := by
        intro j hj
        obtain ⟨h1, h2⟩ := hx j (by omega)
        obtain ⟨c, e, hc⟩ := trod_float h2
        exact ⟨c, by rw [h1, e], hc⟩
      obtain ⟨G, hG⟩ := @Deep.choose_lt Nat ⟨0⟩ len _ each
      obtain ⟨b, off, spot⟩ := a
      have hspot : spot = none := by simpa [Addr.add] using World.cell?_spot (hG 0 (by omega)).1
      subst hspot
      have hc : ∀ j, j < len → w.cell? ⟨b, off + j, none⟩ = some (.float .f64 (G j)) := fun j hj => by rw [← Go.WideShapes.add_plain]; exact (hG j hj).1
      have hlt : b < w.heap.size := by
        have := hc 0 (by omega)
        rcases Nat.lt_or_ge b w.heap.size with h' | h'
        · exact h'
        · simp [World.cell?, Array.getElem?_eq_none h'] at this
      unfold maxLen at hm
      exact Or.inr ⟨b, off, len, cap, G, rfl, by omega, by omega, hlt, hc, fun j hj => (hG j hj).2⟩

theorem law1_all (v : Value) (w : World) (h : IsFlts w v) : Calls Try.prog 3 #[v] w fun e w' => e = .returned (.bool true) ∧ Below w.heap.size w w' := by
  rcases h with ⟨ao, cap, rfl⟩ | ⟨b, off, n, cap, G, rfl, h1, h2, hb, hG, _⟩
  · exact law1_big ao 0 cap w (by omega) (.inr rfl)
  · by_cases hn : n ≤ 4096
    · exact law1_some law1 b off n cap G w h1 hn hb hG
    · exact law1_big _ n cap w h2 (.inl (by omega))
end Go.Proofs.Qxb6630281a.Own
