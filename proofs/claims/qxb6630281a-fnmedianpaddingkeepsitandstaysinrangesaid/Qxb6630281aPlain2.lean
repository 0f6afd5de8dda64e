/-
  The plain law 2: padding keeps the median's rank; the median lies in the range.
-/
import Derived.Test.Qxb6630281aMain2
import Derived.Test.Qxb6630281aPlain
import Derived.Test.Qxb6630281aRange
namespace Go.Proofs.Qxb6630281a.Own
open Ieee

/-- two lists sorted by rank, a permutation of each other up to ranks, have the same ranks -/
theorem ranks_unique {l l' : List Int} (h1 : l.Pairwise (· ≤ ·)) (h2 : l'.Pairwise (· ≤ ·)) (hp : l.Perm l') : l = l' :=
  hp.eq_of_pairwise (fun _ _ _ _ h h' => Int.le_antisymm h h') h1 h2

theorem pad_list (A B n : Nat) (G : Nat → Nat) : listOf (pad A B n G) (n + 2) = A :: (listOf G n ++ [B]) := by
  apply List.ext_getElem
  · simp [listOf]
  · intro i h1 h2
    have hi : i < n + 2 := by simpa [listOf] using h1
    simp only [listOf, List.getElem_map, List.getElem_range]
    unfold pad
    by_cases h0 : i = 0
    · subst h0; simp
    · rw [if_neg h0]
      obtain ⟨k, rfl⟩ : ∃ k, i = k + 1 := ⟨i - 1, by omega⟩
      rw [List.getElem_cons_succ]
      by_cases hk : k + 1 ≤ n
      · rw [if_pos hk, List.getElem_append_left (by simp; omega)]
        simp
      · rw [if_neg hk, List.getElem_append_right (by simp; omega)]
        simp

theorem ranks_pad {A B n : Nat} {G : Nat → Nat} (h : ∀ i, i < n → okEl A B (G i)) (hn : 0 < n) : (sorted (listOf (pad A B n G) (n + 2))).map rank = rank A :: ((sorted (listOf G n)).map rank ++ [rank B]) := by
  refine ranks_unique ?_ ?_ ?_
  · exact List.pairwise_map.2 (sorted_pairwise _)
  · have hm : ∀ x ∈ sorted (listOf G n), rank A ≤ rank x ∧ rank x ≤ rank B := by
      intro x hx
      obtain ⟨i, hi, rfl⟩ := List.mem_map.1 ((sorted_perm (listOf G n)).mem_iff.1 hx)
      exact (h i (by simpa using hi)).2
    have hab : rank A ≤ rank B := Int.le_trans (h 0 hn).2.1 (h 0 hn).2.2
    rw [List.pairwise_cons, List.pairwise_append]
    refine ⟨fun y hy => ?_, List.pairwise_map.2 (sorted_pairwise _), by simp, fun y hy z hz => ?_⟩
    · rcases List.mem_append.1 hy with q | q
      · obtain ⟨x, hx, rfl⟩ := List.mem_map.1 q
        exact (hm x hx).1
      · rw [List.mem_singleton.1 q]; exact hab
    · obtain ⟨x, hx, rfl⟩ := List.mem_map.1 hy
      rw [List.mem_singleton.1 hz]
      exact (hm x hx).2
  · refine ((sorted_perm _).map rank).trans ?_
    rw [pad_list, List.map_cons, List.map_append]
    exact (((sorted_perm (listOf G n)).map rank).symm.append_right _).cons _

theorem rank_get (zs : List Nat) (k : Nat) (hk : k < zs.length) : ((sorted zs).map rank)[k]? = some (rank ((sorted zs)[k]?.getD 0)) := by
  rw [List.getElem?_map, List.getElem?_eq_getElem (by rw [sorted_length]; exact hk)]
  rfl

theorem rank_shift {A B n : Nat} {G : Nat → Nat} (h : ∀ i, i < n → okEl A B (G i)) (k : Nat) (hk : k < n) : rank ((sorted (listOf (pad A B n G) (n + 2)))[k + 1]?.getD 0) = rank ((sorted (listOf G n))[k]?.getD 0) := by
  have h1 := rank_get (listOf (pad A B n G) (n + 2)) (k + 1) (by rw [listOf_length]; omega)
  have h2 := rank_get (listOf G n) k (by rw [listOf_length]; omega)
  rw [ranks_pad h (by omega), List.getElem?_cons_succ, List.getElem?_append_left (by rw [List.length_map, sorted_length, listOf_length]; exact hk), h2] at h1
  exact (Option.some.inj h1).symm

theorem mem_sorted {G : Nat → Nat} {n k : Nat} (hk : k < n) : ∃ i, i < n ∧ (sorted (listOf G n))[k]?.getD 0 = G i := by
  have hl : k < (sorted (listOf G n)).length := by rw [sorted_length, listOf_length]; exact hk
  rw [List.getElem?_eq_getElem hl, Option.getD_some]
  obtain ⟨i, hi, e⟩ := List.mem_map.1 ((sorted_perm (listOf G n)).mem_iff.1 (List.getElem_mem hl))
  exact ⟨i, by simpa using hi, e.symm⟩

theorem dbl_of_inB {x : Nat} (hn : isNaNB x = false) (h : inB x) : dbl (rung x) < infR := by
  obtain ⟨h1, h2⟩ := h
  rw [rank_num hn] at h1 h2
  have hc := sv_cases (isNeg x) (rung x)
  have h3 : rung x ≤ 9094988921128908188 := by
    unfold top300 at h1 h2
    omega
  unfold dbl infR
  split <;> omega

/-- the sum and the half of numbers are numbers -/
theorem mean_in {x y r : Nat} (hx : isNaNB x = false) (hy : isNaNB y = false) (bx : inB x) (by' : inB y) (hxy : rank x ≤ rank y) (h : Mean x y r) : isNaNB r = false ∧ rank x ≤ rank r ∧ rank r ≤ rank y := by
  obtain ⟨t, h1, h2⟩ := h
  have dx := dbl_of_inB hx bx
  have dy := dbl_of_inB hy by'
  have lx : rung x < infR := by unfold dbl at dx; split at dx <;> omega
  have ly : rung y < infR := by unfold dbl at dy; split at dy <;> omega
  have e1 : ∃ d, (double.read x).sum (double.read y) = some d := by
    rw [read_number x lx, read_number y ly]
    exact ⟨_, rfl⟩
  obtain ⟨d, hd⟩ := e1
  have a1 : double.add x y = some (double.write d) := by unfold Format.add; rw [hd]; rfl
  have f1 : floatBits .add .f64 x y = some (double.write d) := a1
  unfold arR at h1
  rw [f1] at h1
  simp only at h1
  rw [← h1] at a1
  have e2 : ∃ q, double.div t twoB = some q := by
    have lt : isNaNB t = false := by
      obtain ⟨neg, mag, k, ht, _⟩ := add_spec lx ly a1
      obtain ⟨r1, hr1, hr2, _⟩ := nearest_abs neg mag (-1074 + (k : Int)) k 0 (by omega)
      rw [ht, hr2]
      exact (word_rk neg r1 hr1).1
    unfold Format.div
    rw [read_two]
    rcases Nat.lt_or_eq_of_le (notNaN lt) with l | l
    · rw [read_number t l]
      simp only [Datum.quotient]
      rw [if_neg (by omega)]
      exact ⟨_, rfl⟩
    · rw [read_inf t l]
      exact ⟨_, rfl⟩
  obtain ⟨q, hq⟩ := e2
  have f2 : floatBits .quo .f64 t twoB = some q := hq
  unfold arR at h2
  rw [f2] at h2
  simp only at h2
  rw [← h2] at hq
  exact mean_between dx dy hxy a1 hq

theorem law2 : Law2 := by
  intro G n A B m p hn hok hm hp
  unfold Med at hm hp
  rw [listOf_length] at hm hp
  have e1 : (n + 2) / 2 = n / 2 + 1 := by omega
  rcases Nat.mod_two_eq_zero_or_one n with hq | hq
  · rw [if_neg (by omega)] at hm hp
    rw [e1] at hp
    have s1 := rank_shift hok (n / 2 - 1) (by omega)
    have s2 := rank_shift hok (n / 2) (by omega)
    rw [show n / 2 - 1 + 1 = n / 2 + 1 - 1 by omega] at s1
    refine ⟨same_of_rank (mean_rank s1 s2 hp hm), fun hin l h hlh => ?_⟩
    obtain ⟨i1, hi1, g1⟩ := mem_sorted (G := G) (n := n) (k := n / 2 - 1) (by omega)
    obtain ⟨i2, hi2, g2⟩ := mem_sorted (G := G) (n := n) (k := n / 2) (by omega)
    have hle : rank (G i1) ≤ rank (G i2) := by
      rw [← g1, ← g2]
      have hl : n / 2 < (sorted (listOf G n)).length := by rw [sorted_length, listOf_length]; omega
      rw [List.getElem?_eq_getElem hl, List.getElem?_eq_getElem (by omega), Option.getD_some, Option.getD_some]
      exact sorted_le (sorted_pairwise _) hl (by omega)
    rw [g1, g2] at hm
    obtain ⟨r1, r2, r3⟩ := mean_in (hok i1 hi1).1 (hok i2 hi2).1 (hin i1 hi1) (hin i2 hi2) hle hm
    exact ⟨r1, Int.le_trans (hlh i1 hi1).1 r2, Int.le_trans r3 (hlh i2 hi2).2⟩
  · rw [if_pos hq] at hm
    rw [if_pos (by omega), e1] at hp
    rw [hp, hm]
    refine ⟨same_of_rank (rank_shift hok (n / 2) (by omega)), fun hin l h hlh => ?_⟩
    obtain ⟨i2, hi2, g2⟩ := mem_sorted (G := G) (n := n) (k := n / 2) (by omega)
    rw [g2]
    exact ⟨(hok i2 hi2).1, (hlh i2 hi2).1, (hlh i2 hi2).2⟩
end Go.Proofs.Qxb6630281a.Own
