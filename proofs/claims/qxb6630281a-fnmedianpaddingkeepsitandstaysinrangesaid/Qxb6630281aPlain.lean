/-
  Plain laws: the mean respects ranks; the order statistic by counting is the sorted list's element, up to rank.
-/
import Derived.Test.Qxb6630281aMain1
namespace Go.Proofs.Qxb6630281a.Own
open Ieee

/-! ### data that differ in a zero's sign alone -/
def zEq (d d' : Datum) : Prop := d = d' ∨ ∃ s s' i, d = .number s 0 i ∧ d' = .number s' 0 i
def oEq (o o' : Option Datum) : Prop := (o = none ∧ o' = none) ∨ ∃ d d', o = some d ∧ o' = some d' ∧ zEq d d'

theorem sv_inj {s t : Bool} {a b : Nat} (h : sv s a = sv t b) : a = b ∧ (s = t ∨ a = 0) := by
  unfold sv at h
  cases s <;> cases t <;> simp only [Bool.false_eq_true, if_false, if_true] at h
  · exact ⟨by omega, .inl rfl⟩
  · exact ⟨by omega, .inr (by omega)⟩
  · exact ⟨by omega, .inr (by omega)⟩
  · exact ⟨by omega, .inl rfl⟩

theorem read_eq {a b : Nat} (h : rank a = rank b) : zEq (double.read a) (double.read b) ∨ (isNaNB a = true ∧ isNaNB b = true) := by
  cases ha : isNaNB a <;> cases hb : isNaNB b
  · left
    rw [rank_num ha, rank_num hb] at h
    obtain ⟨h1, h2⟩ := sv_inj h
    have n1 := notNaN ha
    rcases Nat.lt_or_eq_of_le n1 with l | l
    · rw [read_number a l, read_number b (by rw [← h1]; exact l), ← h1]
      rcases h2 with h2 | h2
      · rw [h2]; exact .inl rfl
      · rw [h2]
        exact .inr ⟨_, _, _, rfl, rfl⟩
    · rw [read_inf a l, read_inf b (by rw [← h1]; exact l)]
      rcases h2 with h2 | h2
      · rw [h2]; exact .inl rfl
      · exfalso; unfold infR at l; omega
  · have h1 := rank_gt ha; have h2 := rank_nan hb; omega
  · have h1 := rank_gt hb; have h2 := rank_nan ha; omega
  · exact .inr ⟨rfl, rfl⟩

theorem signed_zero (s : Bool) (u : Nat) : signed s 0 u = 0 := by
  unfold signed
  cases s <;> simp

theorem sum_num {s s' t t' : Bool} {m n : Nat} {i j : Int} (hs : s = s' ∨ m = 0) (ht : t = t' ∨ n = 0) : oEq (Datum.sum (.number s m i) (.number t n j)) (Datum.sum (.number s' m i) (.number t' n j)) := by
  have e1 : ∀ u, signed s m u = signed s' m u := fun u => hs.elim (fun h => by rw [h]) (fun h => by rw [h, signed_zero, signed_zero])
  have e2 : ∀ u, signed t n u = signed t' n u := fun u => ht.elim (fun h => by rw [h]) (fun h => by rw [h, signed_zero, signed_zero])
  refine .inr ⟨_, _, rfl, rfl, ?_⟩
  rw [← e1, ← e2]
  generalize signed s m _ + signed t n _ = tot
  by_cases h : tot = 0
  · rw [if_pos h, if_pos h, h]
    exact .inr ⟨_, _, _, rfl, rfl⟩
  · rw [if_neg h, if_neg h]
    exact .inl rfl

theorem sum_zEq {a a' b b' : Datum} (h1 : zEq a a') (h2 : zEq b b') : oEq (a.sum b) (a'.sum b') := by
  have refl : ∀ o : Option Datum, oEq o o := fun o => by cases o with
    | none => exact .inl ⟨rfl, rfl⟩
    | some d => exact .inr ⟨d, d, rfl, rfl, .inl rfl⟩
  rcases h1 with rfl | ⟨s, s', i, rfl, rfl⟩ <;> rcases h2 with rfl | ⟨t, t', j, rfl, rfl⟩
  · exact refl _
  · cases a with
    | number s m i => exact sum_num (.inl rfl) (.inr rfl)
    | infinity s => exact refl _
    | nan s f => exact refl _
  · cases b with
    | number s m i => exact sum_num (.inr rfl) (.inl rfl)
    | infinity s => exact refl _
    | nan s f => exact refl _
  · exact sum_num (.inr rfl) (.inr rfl)

theorem word_rank (s : Bool) (r : Nat) (h : r ≤ infR) : isNaNB (double.word s r) = false ∧ isNeg (double.word s r) = s ∧ rung (double.word s r) = r ∧ rank (double.word s r) = sv s r := by
  have e1 : rung (double.word s r) = r := by
    unfold rung Format.word
    rw [double_signWeight]
    unfold infR at h
    cases s <;> simp <;> omega
  have e2 : isNeg (double.word s r) = s := by
    unfold isNeg Format.word
    rw [double_signWeight]
    unfold infR at h
    cases s
    · simp; omega
    · simp; omega
  have e3 : isNaNB (double.word s r) = false := by
    unfold isNaNB
    rw [e1]
    exact decide_eq_false (by omega)
  refine ⟨e3, e2, e1, ?_⟩
  rw [rank_num e3, e1, e2]

theorem write_zEq {d d' : Datum} (h : zEq d d') : rank (double.write d) = rank (double.write d') := by
  rcases h with rfl | ⟨s, s', i, rfl, rfl⟩
  · rfl
  · have e : ∀ s : Bool, double.write (.number s 0 i) = double.word s 0 := fun s => by
      show double.nearest s 0 i = _
      unfold Format.nearest
      rw [if_pos rfl]
    rw [e, e, (word_rank s 0 (by unfold infR; omega)).2.2.2, (word_rank s' 0 (by unfold infR; omega)).2.2.2]
    cases s <;> cases s' <;> rfl

theorem quo_zEq {d d' : Datum} (t : Bool) (n : Nat) (j : Int) (k : Nat) (hn : n ≠ 0) (h : zEq d d') : oEq (d.quotient k (.number t n j)) (d'.quotient k (.number t n j)) := by
  rcases h with rfl | ⟨s, s', i, rfl, rfl⟩
  · cases d.quotient k (.number t n j) with
    | none => exact .inl ⟨rfl, rfl⟩
    | some d => exact .inr ⟨d, d, rfl, rfl, .inl rfl⟩
  · refine .inr ⟨_, _, by unfold Datum.quotient; dsimp only; rw [if_neg hn], by unfold Datum.quotient; dsimp only; rw [if_neg hn], ?_⟩
    simp only [Nat.zero_shiftLeft, Nat.zero_div, Nat.zero_mod]
    exact .inr ⟨_, _, _, rfl, rfl⟩

theorem nan_rank {x y : Nat} (h1 : isNaNB x = true) (h2 : isNaNB y = true) : rank x = rank y := by rw [rank_nan h1, rank_nan h2]

theorem map_rank {op : BinOp} {x y x' y' t t' : Nat} {o o' : Option Datum} (h : oEq o o') (h1 : floatBits op .f64 x y = o.map double.write) (h2 : floatBits op .f64 x' y' = o'.map double.write) (a1 : arR op x y t) (a2 : arR op x' y' t') : rank t = rank t' := by
  unfold arR at a1 a2
  rw [h1] at a1
  rw [h2] at a2
  rcases h with ⟨rfl, rfl⟩ | ⟨d, d', rfl, rfl, hz⟩
  · exact nan_rank a1 a2
  · simp only [Option.map_some] at a1 a2
    rw [a1, a2]
    exact write_zEq hz

theorem sum_nan_left {a : Nat} (h : isNaNB a = true) (d : Datum) : (double.read a).sum d = none := by
  obtain ⟨f, hf⟩ := read_nan a (of_decide_eq_true h)
  rw [hf]; rfl
theorem sum_nan_right {a : Nat} (h : isNaNB a = true) (d : Datum) : d.sum (double.read a) = none := by
  obtain ⟨f, hf⟩ := read_nan a (of_decide_eq_true h)
  rw [hf]; cases d <;> rfl

theorem add_rank {a b a' b' t t' : Nat} (ha : rank a = rank a') (hb : rank b = rank b') (h1 : arR .add a b t) (h2 : arR .add a' b' t') : rank t = rank t' := by
  refine map_rank (o := (double.read a).sum (double.read b)) (o' := (double.read a').sum (double.read b')) ?_ rfl rfl h1 h2
  rcases read_eq ha with za | ⟨na, na'⟩
  · rcases read_eq hb with zb | ⟨nb, nb'⟩
    · exact sum_zEq za zb
    · exact .inl ⟨sum_nan_right nb _, sum_nan_right nb' _⟩
  · exact .inl ⟨sum_nan_left na _, sum_nan_left na' _⟩

theorem read_two : double.read twoB = .number false 4503599627370496 (-51) := by
  have e : rung twoB = 4611686018427387904 := by decide
  rw [read_number twoB (by rw [e]; decide), e]
  rfl

theorem half_rank {t t' r r' : Nat} (ht : rank t = rank t') (h1 : arR .quo t twoB r) (h2 : arR .quo t' twoB r') : rank r = rank r' := by
  refine map_rank (o := (double.read t).quotient 54 (double.read twoB)) (o' := (double.read t').quotient 54 (double.read twoB)) ?_ rfl rfl h1 h2
  rw [read_two]
  rcases read_eq ht with z | ⟨n1, n2⟩
  · exact quo_zEq _ _ _ _ (by omega) z
  · obtain ⟨f, hf⟩ := read_nan t (of_decide_eq_true n1)
    obtain ⟨f', hf'⟩ := read_nan t' (of_decide_eq_true n2)
    rw [hf, hf']
    exact .inl ⟨rfl, rfl⟩

theorem mean_rank {a b a' b' r r' : Nat} (ha : rank a = rank a') (hb : rank b = rank b') (h1 : Mean a b r) (h2 : Mean a' b' r') : rank r = rank r' := by
  obtain ⟨t, p1, p2⟩ := h1
  obtain ⟨t', q1, q2⟩ := h2
  exact half_rank (add_rank ha hb p1 q1) p2 q2

theorem same_of_rank {x y : Nat} (h : rank x = rank y) : sameB x y = true := by
  unfold sameB eqB
  cases hx : isNaNB x <;> cases hy : isNaNB y
  · simp [h]
  · have h1 := rank_gt hx; have h2 := rank_nan hy; omega
  · have h1 := rank_gt hy; have h2 := rank_nan hx; omega
  · rfl

/-! ### counting -/
theorem listOf_succ (G : Nat → Nat) (n : Nat) : listOf G (n + 1) = listOf G n ++ [G n] := by simp [listOf, List.range_succ]
theorem blw_count (G : Nat → Nat) (v n : Nat) : blw G v n = (listOf G n).countP fun x => ltF x v := by
  induction n with
  | zero => rfl
  | succ n ih => rw [listOf_succ, List.countP_append, blw, ih]; simp [List.countP_cons]
theorem atb_count (G : Nat → Nat) (v n : Nat) : atb G v n = (listOf G n).countP fun x => !ltF v x := by
  induction n with
  | zero => rfl
  | succ n ih =>
    rw [listOf_succ, List.countP_append, atb, ih]
    cases h : ltF v (G n) <;> simp [h]

section
variable {S : List Nat} (hS : S.Pairwise fun x y => rank x ≤ rank y)
include hS
theorem sorted_le {i j : Nat} (hj : j < S.length) (hij : i ≤ j) : rank (S[i]'(by omega)) ≤ rank S[j] := by
  rcases Nat.lt_or_eq_of_le hij with h | h
  · exact List.pairwise_iff_getElem.1 hS i j (by omega) hj h
  · subst h; exact Int.le_refl _
theorem take_le {k : Nat} (hk : k < S.length) {x : Nat} (hx : x ∈ S.take (k + 1)) : rank x ≤ rank S[k] := by
  obtain ⟨i, hi, rfl⟩ := List.mem_iff_getElem.1 hx
  have hi' : i < k + 1 := by simp at hi; omega
  rw [List.getElem_take]
  exact sorted_le hS hk (by omega)
theorem drop_ge {k : Nat} (hk : k < S.length) {x : Nat} (hx : x ∈ S.drop k) : rank S[k] ≤ rank x := by
  obtain ⟨i, hi, rfl⟩ := List.mem_iff_getElem.1 hx
  rw [List.getElem_drop]
  exact sorted_le hS (by simp at hi; omega) (by omega)
theorem count_ge {k : Nat} (hk : k < S.length) {p : Nat → Bool} (hp : ∀ x, rank x ≤ rank S[k] → p x = true) : k + 1 ≤ S.countP p := by
  have h1 : (S.take (k + 1)).countP p = (S.take (k + 1)).length := List.countP_eq_length.2 fun x hx => hp x (take_le hS hk hx)
  have h2 : S.countP p = (S.take (k + 1)).countP p + (S.drop (k + 1)).countP p := by rw [← List.countP_append, List.take_append_drop]
  rw [List.length_take] at h1
  omega
theorem count_le {k : Nat} (hk : k < S.length) {p : Nat → Bool} (hp : ∀ x, rank S[k] ≤ rank x → p x = false) : S.countP p ≤ k := by
  have h1 : (S.drop k).countP p = 0 := List.countP_eq_zero.2 fun x hx => by rw [hp x (drop_ge hS hk hx)]; decide
  have h2 : S.countP p = (S.take k).countP p + (S.drop k).countP p := by rw [← List.countP_append, List.take_append_drop]
  have h3 : (S.take k).countP p ≤ (S.take k).length := List.countP_le_length
  rw [List.length_take] at h3
  omega
end

theorem stat_rank {G : Nat → Nat} {n k r : Nat} (hk : k < n) (h : Stat G n k r) : rank r = rank ((sorted (listOf G n))[k]?.getD 0) := by
  have hS := sorted_pairwise (listOf G n)
  have hP := sorted_perm (listOf G n)
  have hl : (sorted (listOf G n)).length = n := by rw [sorted_length, listOf_length]
  have hk' : k < (sorted (listOf G n)).length := by omega
  rw [List.getElem?_eq_getElem hk', Option.getD_some]
  have hb : ∀ v, blw G v n = (sorted (listOf G n)).countP fun x => ltF x v := fun v => by rw [blw_count, hP.countP_eq]
  have ha : ∀ v, atb G v n = (sorted (listOf G n)).countP fun x => !ltF v x := fun v => by rw [atb_count, hP.countP_eq]
  rcases h with ⟨i, hi, rfl, h1, h2⟩ | h
  · rw [hb] at h1
    rw [ha] at h2
    rcases Int.lt_trichotomy (rank (G i)) (rank (sorted (listOf G n))[k]) with c | c | c
    · have := count_le hS hk' (p := fun x => !ltF (G i) x) (fun x hx => by simp [ltF]; omega)
      omega
    · exact c
    · have := count_ge hS hk' (p := fun x => ltF x (G i)) (fun x hx => by simp [ltF]; omega)
      omega
  · exfalso
    have hm : (sorted (listOf G n))[k] ∈ listOf G n := hP.mem_iff.1 (List.getElem_mem _)
    obtain ⟨i, hi, he⟩ := List.mem_map.1 hm
    refine h i (by simpa using hi) ⟨?_, ?_⟩
    · rw [hb, he]
      exact count_le hS hk' (fun x hx => by simp [ltF]; omega)
    · rw [ha, he]
      exact count_ge hS hk' (fun x hx => by simp [ltF]; omega)

theorem law1 : Law1 := by
  intro G n got want hn hM h1 h2
  unfold Med at hM
  rw [listOf_length] at hM
  rcases Nat.mod_two_eq_zero_or_one n with hp | hp
  · rw [if_neg (by omega)] at hM
    obtain ⟨lo, hi, hlo, hhi, hm⟩ := h2 hp
    exact same_of_rank (mean_rank (stat_rank (by omega) hlo).symm (stat_rank (by omega) hhi).symm hM hm)
  · rw [if_pos hp] at hM
    rw [hM]
    exact same_of_rank (stat_rank (by omega) (h1 hp)).symm
end Go.Proofs.Qxb6630281a.Own
