/-
  A slice of conditions that came in, opened.
-/
import Derived.Test.Qxb6630326aDeny
import Derived.ProofKit
import Derived.OpenShut
import Derived.Deep.Slices
namespace Go.Proofs.Qxb6630326a.Own
open Go.ChangeShapes Go.WideShapes Go.ChangeAt Go.RowKit

theorem cells25 : Try.prog.cellsOf 25 = 4 := by kernel_rfl
theorem cells4 : Try.prog.cellsOf 4 = 1 := by kernel_rfl
theorem cells9 : Try.prog.cellsOf 9 = 1 := by kernel_rfl

/-- one element: four cells -/
theorem open_pm {H : Type} {enc : TypeId × Value → H} {w : World} {base : Nat} {spare : Nat → Bool} {held : Bool} {fuel : Nat} {cs : List Value} {x : DataW H × List MemPlace}
    (h : DataW.trod enc Try.prog w base spare held fuel 25 cs = some x) : ∃ p : Pm, cs = [.bool p.neg, .string p.name, .bool p.hg, .string p.glob] ∧ p.name.size ≤ maxLen ∧ p.glob.size ≤ maxLen := by
  obtain ⟨xs, n, _, _, hl, hlen, hf⟩ := DataW.trod_struct Try.underlying25 h
  rw [cells25] at hl
  match cs, hl with
  | [c0, c1, c2, c3], _ =>
    match xs, hlen with
    | [x0, x1, x2, x3], _ =>
      have f0 : DataW.trod enc Try.prog w base spare held n 4 (([c0, c1, c2, c3].drop 0).take (Try.prog.cellsOf 4)) = some x0 := hf 0 _ rfl
      have f1 : DataW.trod enc Try.prog w base spare held n 9 (([c0, c1, c2, c3].drop 1).take (Try.prog.cellsOf 9)) = some x1 := hf 1 _ rfl
      have f2 : DataW.trod enc Try.prog w base spare held n 4 (([c0, c1, c2, c3].drop 2).take (Try.prog.cellsOf 4)) = some x2 := hf 2 _ rfl
      have f3 : DataW.trod enc Try.prog w base spare held n 9 (([c0, c1, c2, c3].drop 3).take (Try.prog.cellsOf 9)) = some x3 := hf 3 _ rfl
      rw [cells4] at f0 f2
      rw [cells9] at f1 f3
      obtain ⟨b0, e0, _⟩ := DataW.trod_bool Try.underlying4 f0
      obtain ⟨s1, e1, _, z1⟩ := DataW.trod_string Try.underlying9 f1
      obtain ⟨b2, e2, _⟩ := DataW.trod_bool Try.underlying4 f2
      obtain ⟨s3, e3, _, z3⟩ := DataW.trod_string Try.underlying9 f3
      simp at e0 e1 e2 e3
      subst e0 e1 e2 e3
      exact ⟨⟨b0, s1, b2, s3⟩, rfl, z1, z3⟩

/-- the slice: conditions that lie in memory, each of a length that fits -/
theorem open_pms {H : Type} {enc : TypeId × Value → H} {w : World} {spare : Nat → Bool} {held : Bool} {fuel : Nat} {v : Value} {x : DataW H × List MemPlace} (hsp : ∀ b, spare b = true)
    (h : DataW.trod enc Try.prog w 0 spare held fuel 22 [v] = some x) : ∃ ps : List Pm, ParamsAt w v ps ∧ Fits ps := by
  rcases Deep.open_slice Try.underlying22 h with ⟨hcs, _⟩ | ⟨a, len, cap, m, n, D, Pl, hcs, _, hl, hm, hmm, _, hx⟩
  · simp at hcs
    subst hcs
    exact ⟨[], Or.inl ⟨_, _, rfl, rfl⟩, by simp [maxLen], fun i h => absurd h (Nat.not_lt_zero _)⟩
  · simp at hcs
    subst hcs
    by_cases hz : len = 0
    · subst hz
      exact ⟨[], Or.inl ⟨_, _, rfl, rfl⟩, by simp [maxLen], fun i h => absurd h (Nat.not_lt_zero _)⟩
    · rw [hsp, if_pos rfl] at hmm
      have each : ∀ i, i < len → ∃ p : Pm, w.cell? (a.add (i * 4)) = some (.bool p.neg) ∧ w.cell? ((a.add (i * 4)).add 1) = some (.string p.name) ∧ w.cell? ((a.add (i * 4)).add 2) = some (.bool p.hg) ∧ w.cell? ((a.add (i * 4)).add 3) = some (.string p.glob) ∧ p.name.size ≤ maxLen ∧ p.glob.size ≤ maxLen := by
        intro i hi
        obtain ⟨cs', h1, h2⟩ := hx i (by omega)
        rw [cells25] at h1
        obtain ⟨p, rfl, z1, z2⟩ := open_pm h2
        obtain ⟨_, _, hc⟩ := World.cells?_some h1
        refine ⟨p, ?_, ?_, ?_, ?_, z1, z2⟩
        · have := hc 0 (by omega)
          simpa [Addr.add] using this
        · exact hc 1 (by omega)
        · exact hc 2 (by omega)
        · exact hc 3 (by omega)
      obtain ⟨f, hf⟩ := @Deep.choose_lt Pm ⟨⟨false, ByteArray.empty, false, ByteArray.empty⟩⟩ len _ each
      obtain ⟨b, off, spot⟩ := a
      have hspot : spot = none := by simpa [Addr.add] using World.cell?_spot (hf 0 (by omega)).1
      subst hspot
      have hlt : b < w.heap.size := by
        have := (hf 0 (by omega)).1
        rw [WideShapes.add_plain] at this
        rcases Nat.lt_or_ge b w.heap.size with h' | h'
        · exact h'
        · simp [World.cell?, Array.getElem?_eq_none h'] at this
      have hlen : ((List.range len).map f).length = len := by simp
      refine ⟨(List.range len).map f, Or.inr ⟨b, off, cap, by rw [hlen], hlt, fun i hi => ?_⟩, by rw [hlen]; omega, fun i hi => ?_⟩
      · rw [hlen] at hi
        obtain ⟨g0, g1, g2, g3, _, _⟩ := hf i hi
        rw [WideShapes.add_plain] at g0
        rw [WideShapes.add_plain, WideShapes.add_plain] at g1 g2 g3
        simp only [List.getElem_map, List.getElem_range]
        exact ⟨g0, g1, g2, g3⟩
      · rw [hlen] at hi
        simp only [List.getElem_map, List.getElem_range]
        exact (hf i hi).2.2.2.2
end Go.Proofs.Qxb6630326a.Own
