/-
  Rounding keeps order: (x + y) / 2 lies between x and y where the sum does not overflow. Plain: no program in sight.
-/
import Derived.Test.Qxb6630281aFloat
namespace Go.Proofs.Qxb6630281a.Own
open Ieee

theorem cut_bounds (neg : Bool) (n d : Nat) : 2 * (Toward.even.cut neg n d) * 2 ^ d ≤ 2 * n + 2 ^ d ∧ 2 * n ≤ 2 * (Toward.even.cut neg n d) * 2 ^ d + 2 ^ d := by
  unfold Toward.cut
  dsimp only
  rw [Nat.shiftLeft_eq, Nat.one_mul]
  by_cases h : d ≤ n.log2 + 2
  · rw [Nat.min_eq_left h]
    have hg := Nat.two_pow_pos d
    generalize 2 ^ d = g at hg ⊢
    have hd := Nat.div_add_mod n g
    have hr := Nat.mod_lt n hg
    generalize n / g = q at hd ⊢
    generalize n % g = r at hd hr ⊢
    have e1 : 2 * q * g = 2 * (g * q) := by rw [Nat.mul_assoc, Nat.mul_comm q g]
    by_cases hm : (decide (g < 2 * r) || g == 2 * r && q % 2 == 1) = true
    · have hge : g ≤ 2 * r := by
        simp only [Bool.or_eq_true, Bool.and_eq_true, decide_eq_true_eq, beq_iff_eq] at hm
        omega
      rw [hm]
      have e2 : 2 * (q + true.toNat) * g = 2 * (g * q) + 2 * g := by
        show 2 * (q + 1) * g = _
        rw [Nat.mul_add, Nat.add_mul, e1]
      rw [e2]
      omega
    · have hle : 2 * r ≤ g := by
        simp only [Bool.or_eq_true, Bool.and_eq_true, decide_eq_true_eq, beq_iff_eq] at hm
        omega
      rw [Bool.not_eq_true] at hm
      rw [hm]
      have e2 : 2 * (q + false.toNat) * g = 2 * (g * q) := by
        show 2 * (q + 0) * g = _
        rw [Nat.add_zero, e1]
      rw [e2]
      omega
  · have hmin : min d (n.log2 + 2) = n.log2 + 2 := by omega
    rw [hmin]
    have h1 : n < 2 ^ (n.log2 + 1) := Nat.lt_log2_self
    have h2 : 2 ^ (n.log2 + 2) = 2 * 2 ^ (n.log2 + 1) := by rw [Nat.pow_succ 2 (n.log2 + 1), Nat.mul_comm]
    have h3 : 2 ^ (n.log2 + 2) ≤ 2 ^ d := Nat.pow_le_pow_right (by omega) (by omega)
    generalize 2 ^ d = g at h3 ⊢
    generalize 2 ^ (n.log2 + 1) = c at h1 h2
    rw [h2] at h3 ⊢
    rw [Nat.div_eq_of_lt (by omega), Nat.mod_eq_of_lt (by omega)]
    have hm : (decide (2 * c < 2 * n) || 2 * c == 2 * n && 0 % 2 == 1) = false := by
      simp
      omega
    rw [hm]
    simp
    omega

theorem val_mk (E k : Nat) (hk : k ≤ 9007199254740992) (h : E = 0 ∨ 4503599627370496 ≤ k) : val (E * 4503599627370496 + k) = k * 2 ^ E := by
  unfold val mant expo
  by_cases h1 : E * 4503599627370496 + k < 4503599627370496
  · have hE : E = 0 := by omega
    subst hE
    rw [if_pos h1, if_pos h1]
    omega
  · rw [if_neg h1, if_neg h1]
    rcases Nat.lt_or_ge k 4503599627370496 with h2 | h2
    · omega
    · rcases Nat.lt_or_ge k 9007199254740992 with h3 | h3
      · have e1 : (E * 4503599627370496 + k) % 4503599627370496 = k - 4503599627370496 := by omega
        have e2 : (E * 4503599627370496 + k) / 4503599627370496 - 1 = E := by omega
        rw [e1, e2, show 4503599627370496 + (k - 4503599627370496) = k by omega]
      · have e0 : k = 9007199254740992 := by omega
        have e1 : (E * 4503599627370496 + k) % 4503599627370496 = 0 := by omega
        have e2 : (E * 4503599627370496 + k) / 4503599627370496 - 1 = E + 1 := by omega
        rw [e1, e2, e0, Nat.pow_succ]
        generalize 2 ^ E = q
        omega

theorem nearest_spec (neg : Bool) (mag : Nat) (place : Int) (hm : mag ≠ 0) (a b : Nat) (hab : (a : Int) - (b : Int) = place + 1074) :
    ∃ r0, double.nearest neg mag place = double.word neg (min r0 infR) ∧ (∀ ρ, mag * 2 ^ a ≤ val ρ * 2 ^ b → r0 ≤ ρ) ∧ (∀ ρ, val ρ * 2 ^ b ≤ mag * 2 ^ a → ρ ≤ r0) := by
  obtain ⟨L, hL⟩ : ∃ L, L = mag.log2 := ⟨_, rfl⟩
  obtain ⟨last, hlast⟩ : ∃ l, l = max (place + (L : Int) - 52) (-1074) := ⟨_, rfl⟩
  obtain ⟨E, hE⟩ : ∃ E, E = (last + 1074).toNat := ⟨_, rfl⟩
  obtain ⟨u, hu⟩ : ∃ u, u = (place - last).toNat := ⟨_, rfl⟩
  obtain ⟨d, hd⟩ : ∃ d, d = (last - place).toNat := ⟨_, rfl⟩
  have hlo : 2 ^ L ≤ mag := by rw [hL]; exact Nat.log2_self_le hm
  have hhi : mag < 2 ^ (L + 1) := by rw [hL]; exact Nat.lt_log2_self
  obtain ⟨n, hn⟩ : ∃ n, n = mag * 2 ^ u := ⟨_, rfl⟩
  obtain ⟨k, hk⟩ : ∃ k, k = Toward.even.cut neg n d := ⟨_, rfl⟩
  have hcut := cut_bounds neg n d
  rw [← hk] at hcut
  have hp := Nat.two_pow_pos d
  have hlt : n < 9007199254740992 * 2 ^ d := by
    have h1 : n < 2 ^ (L + 1) * 2 ^ u := by rw [hn]; exact Nat.mul_lt_mul_of_pos_right hhi (Nat.two_pow_pos u)
    have h2 : 2 ^ (L + 1) * 2 ^ u ≤ 9007199254740992 * 2 ^ d := by
      rw [show (9007199254740992 : Nat) = 2 ^ 53 by decide, ← Nat.pow_add, ← Nat.pow_add]
      exact Nat.pow_le_pow_right (by omega) (by omega)
    omega
  have hge : E = 0 ∨ 4503599627370496 * 2 ^ d ≤ n := by
    by_cases h0 : E = 0
    · exact .inl h0
    · right
      have h1 : 2 ^ L * 2 ^ u ≤ n := by rw [hn]; exact Nat.mul_le_mul_right _ hlo
      have h2 : 4503599627370496 * 2 ^ d = 2 ^ L * 2 ^ u := by
        rw [show (4503599627370496 : Nat) = 2 ^ 52 by decide, ← Nat.pow_add, ← Nat.pow_add]
        congr 1
        omega
      omega
  have hsum : u + E + b = a + d := by omega
  have hk1 : k ≤ 9007199254740992 := by
    have h1 : 2 * k * 2 ^ d < (2 * 9007199254740992 + 1) * 2 ^ d := by
      rw [Nat.add_mul, Nat.one_mul, Nat.mul_assoc 2 9007199254740992]
      omega
    have := Nat.lt_of_mul_lt_mul_right h1
    omega
  have hk2 : E = 0 ∨ 4503599627370496 ≤ k := by
    rcases hge with h | h
    · exact .inl h
    · right
      have h1 : (2 * 4503599627370496) * 2 ^ d ≤ (2 * k + 1) * 2 ^ d := by
        rw [Nat.add_mul, Nat.one_mul, Nat.mul_assoc 2 4503599627370496]
        omega
      have := Nat.le_of_mul_le_mul_right h1 hp
      omega
  have hv0 := val_mk E k hk1 hk2
  have hE0 := Nat.two_pow_pos E
  have tr1 : ∀ V, mag * 2 ^ a ≤ V * 2 ^ b → n * 2 ^ E ≤ V * 2 ^ d := by
    intro V h
    refine Nat.le_of_mul_le_mul_right (c := 2 ^ b) ?_ (Nat.two_pow_pos b)
    have e1 : n * 2 ^ E * 2 ^ b = mag * 2 ^ a * 2 ^ d := by
      rw [hn, Nat.mul_assoc, Nat.mul_assoc, Nat.mul_assoc, ← Nat.pow_add, ← Nat.pow_add, ← Nat.pow_add]
      congr 2
      omega
    have e2 : V * 2 ^ d * 2 ^ b = V * 2 ^ b * 2 ^ d := by rw [Nat.mul_assoc, Nat.mul_comm (2 ^ d), Nat.mul_assoc]
    rw [e1, e2]
    exact Nat.mul_le_mul_right _ h
  have tr2 : ∀ V, V * 2 ^ b ≤ mag * 2 ^ a → V * 2 ^ d ≤ n * 2 ^ E := by
    intro V h
    refine Nat.le_of_mul_le_mul_right (c := 2 ^ b) ?_ (Nat.two_pow_pos b)
    have e1 : n * 2 ^ E * 2 ^ b = mag * 2 ^ a * 2 ^ d := by
      rw [hn, Nat.mul_assoc, Nat.mul_assoc, Nat.mul_assoc, ← Nat.pow_add, ← Nat.pow_add, ← Nat.pow_add]
      congr 2
      omega
    have e2 : V * 2 ^ d * 2 ^ b = V * 2 ^ b * 2 ^ d := by rw [Nat.mul_assoc, Nat.mul_comm (2 ^ d), Nat.mul_assoc]
    rw [e1, e2]
    exact Nat.mul_le_mul_right _ h
  refine ⟨E * 4503599627370496 + k, ?_, ?_, ?_⟩
  · unfold Format.nearest
    rw [if_neg hm]
    simp only [double_binade, double_infRung, double_leastPlace]
    rw [show (double.fractionBits : Int) = 52 from rfl, ← hL, ← hlast, Nat.shiftLeft_eq, ← hu, ← hd, ← hn, ← hk]
    rw [show (last - -1074).toNat = E by omega]
    rfl
  · intro ρ h
    have h1 := tr1 _ h
    refine Nat.le_of_not_lt fun hlt2 => ?_
    have hV : val ρ ≤ val (E * 4503599627370496 + k - 1) := val_le (by omega)
    have hk0 : 1 ≤ k := by
      rcases hk2 with e | e
      · subst e; omega
      · omega
    by_cases hc : E = 0 ∨ 4503599627370496 ≤ k - 1
    · have e1 : E * 4503599627370496 + k - 1 = E * 4503599627370496 + (k - 1) := by omega
      rw [e1, val_mk E (k - 1) (by omega) hc] at hV
      have h2 : n * 2 ^ E ≤ ((k - 1) * 2 ^ d) * 2 ^ E := by
        refine Nat.le_trans h1 (Nat.le_trans (Nat.mul_le_mul_right _ hV) ?_)
        rw [Nat.mul_assoc, Nat.mul_comm (2 ^ E), Nat.mul_assoc]
        exact Nat.le_refl _
      have h3 := Nat.le_of_mul_le_mul_right h2 hE0
      obtain ⟨j, rfl⟩ : ∃ j, k = j + 1 := ⟨k - 1, by omega⟩
      have e2 : 2 * (j + 1) * 2 ^ d = 2 * (j * 2 ^ d) + 2 * 2 ^ d := by rw [Nat.mul_add, Nat.add_mul, Nat.mul_assoc]
      rw [e2] at hcut
      rw [Nat.add_sub_cancel] at h3
      generalize j * 2 ^ d = z at *
      generalize 2 ^ d = g at *
      omega
    · have hE1 : E ≠ 0 := fun e => hc (.inl e)
      have hkk : k = 4503599627370496 := by omega
      have h2 : val (E * 4503599627370496 + k - 1) < val (E * 4503599627370496 + k) := val_lt (by omega)
      rw [hv0] at h2
      have h3 : n * 2 ^ E < (k * 2 ^ d) * 2 ^ E := by
        refine Nat.lt_of_le_of_lt h1 (Nat.lt_of_lt_of_le (Nat.mul_lt_mul_of_pos_right (Nat.lt_of_le_of_lt hV h2) hp) ?_)
        rw [Nat.mul_assoc, Nat.mul_comm (2 ^ E), Nat.mul_assoc]
        exact Nat.le_refl _
      have h4 := Nat.lt_of_mul_lt_mul_right h3
      rw [hkk] at h4
      rcases hge with e | e
      · exact hE1 e
      · omega
  · intro ρ h
    have h1 := tr2 _ h
    refine Nat.le_of_not_lt fun hlt2 => ?_
    have hV : val (E * 4503599627370496 + k + 1) ≤ val ρ := val_le (by omega)
    by_cases hc : k < 9007199254740992
    · rw [Nat.add_assoc, val_mk E (k + 1) (by omega) (by omega)] at hV
      have h2 : ((k + 1) * 2 ^ d) * 2 ^ E ≤ n * 2 ^ E := by
        refine Nat.le_trans ?_ (Nat.le_trans (Nat.mul_le_mul_right _ hV) h1)
        rw [Nat.mul_assoc, Nat.mul_comm (2 ^ d), Nat.mul_assoc]
        exact Nat.le_refl _
      have h3 := Nat.le_of_mul_le_mul_right h2 hE0
      have e2 : (k + 1) * 2 ^ d = k * 2 ^ d + 2 ^ d := by rw [Nat.add_mul, Nat.one_mul]
      have e3 : 2 * k * 2 ^ d = 2 * (k * 2 ^ d) := by rw [Nat.mul_assoc]
      rw [e2] at h3
      rw [e3] at hcut
      generalize k * 2 ^ d = z at *
      generalize 2 ^ d = g at *
      omega
    · have hkk : k = 9007199254740992 := by omega
      have h2 : val (E * 4503599627370496 + k) < val (E * 4503599627370496 + k + 1) := val_lt (by omega)
      rw [hv0] at h2
      have h3 : (k * 2 ^ d) * 2 ^ E < n * 2 ^ E := by
        refine Nat.lt_of_le_of_lt ?_ (Nat.lt_of_lt_of_le (Nat.mul_lt_mul_of_pos_right (Nat.lt_of_lt_of_le h2 hV) hp) h1)
        rw [Nat.mul_assoc, Nat.mul_comm (2 ^ d), Nat.mul_assoc]
        exact Nat.le_refl _
      have h4 := Nat.lt_of_mul_lt_mul_right h3
      rw [hkk] at h4
      omega

theorem word_rk (s : Bool) (r : Nat) (h : r ≤ infR) : isNaNB (double.word s r) = false ∧ rank (double.word s r) = sv s r := by
  have e1 : rung (double.word s r) = r := by
    unfold rung Format.word
    rw [double_signWeight]
    unfold infR at h
    cases s <;> simp <;> omega
  have e2 : isNeg (double.word s r) = s := by
    unfold isNeg Format.word
    rw [double_signWeight]
    unfold infR at h
    cases s
    · simp; omega
    · simp; omega
  have e3 : isNaNB (double.word s r) = false := by
    unfold isNaNB
    rw [e1]
    exact decide_eq_false (by omega)
  refine ⟨e3, ?_⟩
  rw [rank_num e3, e1, e2]

theorem nearest_abs (neg : Bool) (mag : Nat) (place : Int) (a b : Nat) (hab : (a : Int) - (b : Int) = place + 1074) :
    ∃ r1, r1 ≤ infR ∧ double.nearest neg mag place = double.word neg r1 ∧ (∀ ρ, ρ ≤ infR → mag * 2 ^ a ≤ val ρ * 2 ^ b → r1 ≤ ρ) ∧ (∀ ρ, ρ ≤ infR → val ρ * 2 ^ b ≤ mag * 2 ^ a → ρ ≤ r1) := by
  by_cases hm : mag = 0
  · refine ⟨0, Nat.zero_le _, by unfold Format.nearest; rw [if_pos hm], fun _ _ _ => Nat.zero_le _, fun ρ _ h => ?_⟩
    rw [hm, Nat.zero_mul] at h
    have h1 : val ρ = 0 := (Nat.mul_eq_zero.1 (Nat.le_zero.1 h)).resolve_right (Nat.ne_of_gt (Nat.two_pow_pos b))
    rw [val_inj (h1.trans val_zero.symm)]
    exact Nat.le_refl _
  · obtain ⟨r0, h1, h2, h3⟩ := nearest_spec neg mag place hm a b hab
    exact ⟨min r0 infR, Nat.min_le_right _ _, h1, fun ρ _ h => Nat.le_trans (Nat.min_le_left _ _) (h2 ρ h), fun ρ hρ h => Nat.le_min.2 ⟨h3 ρ h, hρ⟩⟩

theorem nearest_le (neg : Bool) (mag : Nat) (place : Int) (a b : Nat) (hab : (a : Int) - (b : Int) = place + 1074) (s : Bool) (ρ : Nat) (hρ : ρ ≤ infR) (h : sv neg (mag * 2 ^ a) ≤ sv s (val ρ * 2 ^ b)) :
    isNaNB (double.nearest neg mag place) = false ∧ rank (double.nearest neg mag place) ≤ sv s ρ := by
  obtain ⟨r1, h0, h1, h2, h3⟩ := nearest_abs neg mag place a b hab
  obtain ⟨w1, w2⟩ := word_rk neg r1 h0
  rw [h1]
  refine ⟨w1, ?_⟩
  rw [w2]
  have hz := h2 0 (Nat.zero_le _)
  rw [val_zero, Nat.zero_mul] at hz
  unfold sv at h ⊢
  cases neg <;> cases s <;> simp only [Bool.false_eq_true, if_false, if_true] at h ⊢
  · have := h2 ρ hρ (by omega)
    omega
  · have e1 := hz (by omega)
    have e2 : val ρ * 2 ^ b = 0 := by omega
    have e3 : val ρ = 0 := (Nat.mul_eq_zero.1 e2).resolve_right (Nat.ne_of_gt (Nat.two_pow_pos b))
    have e4 := val_inj (e3.trans val_zero.symm)
    omega
  · omega
  · have := h3 ρ hρ (by omega)
    omega
theorem nearest_ge (neg : Bool) (mag : Nat) (place : Int) (a b : Nat) (hab : (a : Int) - (b : Int) = place + 1074) (s : Bool) (ρ : Nat) (hρ : ρ ≤ infR) (h : sv s (val ρ * 2 ^ b) ≤ sv neg (mag * 2 ^ a)) :
    sv s ρ ≤ rank (double.nearest neg mag place) := by
  obtain ⟨r1, h0, h1, h2, h3⟩ := nearest_abs neg mag place a b hab
  obtain ⟨w1, w2⟩ := word_rk neg r1 h0
  rw [h1, w2]
  have hz := h2 0 (Nat.zero_le _)
  rw [val_zero, Nat.zero_mul] at hz
  unfold sv at h ⊢
  cases neg <;> cases s <;> simp only [Bool.false_eq_true, if_false, if_true] at h ⊢
  · have := h3 ρ hρ (by omega)
    omega
  · omega
  · have e1 := hz (by omega)
    have e2 : val ρ * 2 ^ b = 0 := by omega
    have e3 : val ρ = 0 := (Nat.mul_eq_zero.1 e2).resolve_right (Nat.ne_of_gt (Nat.two_pow_pos b))
    have e4 := val_inj (e3.trans val_zero.symm)
    omega
  · have := h2 ρ hρ (by omega)
    omega

/-! ### twice a rung -/
def dbl (r : Nat) : Nat := if r < 4503599627370496 then 2 * r else r + 4503599627370496
theorem val_dbl (r : Nat) : val (dbl r) = val r * 2 := by
  unfold dbl
  by_cases h : r < 4503599627370496
  · rw [if_pos h]
    have e1 := val_mk 0 r (by omega) (.inl rfl)
    have e2 := val_mk 0 (2 * r) (by omega) (.inl rfl)
    simp only [Nat.zero_mul, Nat.zero_add, Nat.pow_zero, Nat.mul_one] at e1 e2
    rw [e1, e2]
    omega
  · rw [if_neg h]
    unfold val mant expo
    rw [if_neg h, if_neg h, if_neg (by omega), if_neg (by omega)]
    have e1 : (r + 4503599627370496) % 4503599627370496 = r % 4503599627370496 := by omega
    have e2 : (r + 4503599627370496) / 4503599627370496 - 1 = (r / 4503599627370496 - 1) + 1 := by omega
    rw [e1, e2, Nat.pow_succ, Nat.mul_assoc]

def sval (x : Nat) : Int := sv (isNeg x) (val (rung x))
theorem sv_val_le {s t : Bool} {a b : Nat} (h : sv s a ≤ sv t b) : sv s (val a) ≤ sv t (val b) := by
  have ha := val_le (Nat.zero_le a)
  have hb := val_le (Nat.zero_le b)
  rw [val_zero] at ha hb
  unfold sv at h ⊢
  cases s <;> cases t <;> simp only [Bool.false_eq_true, if_false, if_true] at h ⊢
  · have := val_le (show a ≤ b by omega); omega
  · obtain rfl : a = 0 := by omega
    obtain rfl : b = 0 := by omega
    rw [val_zero]; omega
  · omega
  · have := val_le (show b ≤ a by omega); omega

theorem sv_natAbs (tot : Int) (s t : Bool) (c : Nat) : sv (if tot = 0 then s && t else decide (tot < 0)) (tot.natAbs * c) = tot * (c : Int) := by
  rw [sv_mul]
  congr 1
  by_cases h : tot = 0
  · subst h
    rw [if_pos rfl]
    unfold sv
    simp
  · rw [if_neg h]
    unfold sv
    by_cases h2 : tot < 0
    · rw [decide_eq_true h2, if_pos rfl]; omega
    · rw [decide_eq_false h2]; simp; omega

/-- the sum of two numbers: the exact sum, rounded -/
theorem add_spec {x y t : Nat} (hx : rung x < infR) (hy : rung y < infR) (h : double.add x y = some t) : ∃ (neg : Bool) (mag k : Nat), t = double.nearest neg mag (-1074 + (k : Int)) ∧ sv neg (mag * 2 ^ k) = sval x + sval y := by
  unfold Format.add at h
  rw [read_number x hx, read_number y hy] at h
  simp only [Datum.sum, Option.map_some, Option.some.injEq] at h
  obtain ⟨k, hk⟩ : ∃ k, k = min (expo (rung x)) (expo (rung y)) := ⟨_, rfl⟩
  have hb : min (-1074 + (expo (rung x) : Int)) (-1074 + (expo (rung y) : Int)) = -1074 + (k : Int) := by omega
  rw [hb] at h
  refine ⟨_, _, k, h.symm, ?_⟩
  rw [sv_natAbs]
  have h1 : (-1074 + (expo (rung x) : Int) - (-1074 + (k : Int))).toNat = expo (rung x) - k := by omega
  have h2 : (-1074 + (expo (rung y) : Int) - (-1074 + (k : Int))).toNat = expo (rung y) - k := by omega
  rw [h1, h2, signed_sv, signed_sv, Int.add_mul, ← sv_mul, ← sv_mul]
  have p1 : mant (rung x) * 2 ^ (expo (rung x) - k) * 2 ^ k = val (rung x) := by unfold val; rw [Nat.mul_assoc, ← Nat.pow_add]; congr 2; omega
  have p2 : mant (rung y) * 2 ^ (expo (rung y) - k) * 2 ^ k = val (rung y) := by unfold val; rw [Nat.mul_assoc, ← Nat.pow_add]; congr 2; omega
  rw [p1, p2]
  rfl

theorem mant_lt (r : Nat) : mant r < 9007199254740992 := by
  unfold mant
  split <;> omega

/-- half a number: the exact half, rounded -/
theorem half_spec {t r : Nat} (ht : rung t < infR) (h : double.div t 4611686018427387904 = some r) : ∃ (mag : Nat) (place : Int) (a b : Nat), r = double.nearest (isNeg t) mag place ∧ (a : Int) - ((b + 1 : Nat) : Int) = place + 1074 ∧ mag * 2 ^ a = val (rung t) * 2 ^ b := by
  have e2 : double.read 4611686018427387904 = .number false 4503599627370496 (-51) := by
    have e : rung 4611686018427387904 = 4611686018427387904 := by decide
    rw [read_number _ (by rw [e]; decide), e]
    rfl
  unfold Format.div at h
  rw [read_number t ht, e2] at h
  have hm := mant_lt (rung t)
  unfold val
  generalize mant (rung t) = m at *
  generalize expo (rung t) = e at *
  simp only [Datum.quotient] at h
  rw [if_neg (by omega)] at h
  simp only [Option.map_some, Option.some.injEq] at h
  have hlog : Nat.log2 4503599627370496 = 52 := by decide
  have hf : double.fractionBits = 52 := rfl
  have hlm : m.log2 ≤ 52 := by
    by_cases h0 : m = 0
    · subst h0; decide
    · have h1 := Nat.log2_self_le h0
      have h2 : 2 ^ m.log2 < 2 ^ 53 := Nat.lt_of_le_of_lt h1 hm
      have h3 := (Nat.pow_lt_pow_iff_right (by omega : 1 < 2)).1 h2
      omega
  rw [hlog, hf] at h
  obtain ⟨more, hmore⟩ : ∃ q, q = 52 + 2 + 52 - m.log2 := ⟨_, rfl⟩
  rw [← hmore] at h
  have hm54 : 54 ≤ more := by omega
  have e3 : m <<< more = m * 2 ^ (more - 52) * 4503599627370496 := by
    rw [Nat.shiftLeft_eq, show (4503599627370496 : Nat) = 2 ^ 52 by decide, Nat.mul_assoc, ← Nat.pow_add]
    congr 2
    omega
  rw [e3, Nat.mul_div_cancel _ (by omega), Nat.mul_mod_left] at h
  refine ⟨2 * (m * 2 ^ (more - 52)) + 0, -1074 + (e : Int) - -51 - (more : Int) - 1, e, more - 51, ?_, ?_, ?_⟩
  · rw [← h, Bool.xor_false]
    rfl
  · omega
  · show (2 * (m * 2 ^ (more - 52)) + 0) * 2 ^ e = m * 2 ^ e * 2 ^ (more - 51)
    have e4 : 2 ^ (more - 51) = 2 * 2 ^ (more - 52) := by
      rw [show more - 51 = (more - 52) + 1 by omega, Nat.pow_succ, Nat.mul_comm]
    rw [e4, Nat.add_zero, Nat.mul_assoc m (2 ^ e), Nat.mul_left_comm (2 ^ e), Nat.mul_left_comm m 2, Nat.mul_assoc 2, Nat.mul_assoc m, Nat.mul_comm (2 ^ e)]

theorem sv_cases (s : Bool) (a : Nat) : sv s a = (a : Int) ∨ sv s a = -(a : Int) := by
  unfold sv
  cases s
  · exact .inl rfl
  · exact .inr rfl

/-- the mean of two numbers, the sum not overflowing, lies between them -/
theorem mean_between {x y t r : Nat} (hx : dbl (rung x) < infR) (hy : dbl (rung y) < infR) (hxy : rank x ≤ rank y) (h1 : double.add x y = some t) (h2 : double.div t 4611686018427387904 = some r) :
    isNaNB r = false ∧ rank x ≤ rank r ∧ rank r ≤ rank y := by
  have lx : rung x < infR := by unfold dbl at hx; split at hx <;> omega
  have ly : rung y < infR := by unfold dbl at hy; split at hy <;> omega
  have nx : isNaNB x = false := decide_eq_false (by omega)
  have ny : isNaNB y = false := decide_eq_false (by omega)
  rw [rank_num nx, rank_num ny] at hxy
  have hv := sv_val_le hxy
  have dx : sv (isNeg x) (val (dbl (rung x))) = sval x * 2 := by rw [val_dbl, sv_mul]; rfl
  have dy : sv (isNeg y) (val (dbl (rung y))) = sval y * 2 := by rw [val_dbl, sv_mul]; rfl
  have hv' : sval x ≤ sval y := hv
  obtain ⟨neg, mag, k, ht, hsum⟩ := add_spec lx ly h1
  have b1 := nearest_le neg mag (-1074 + (k : Int)) k 0 (by omega) (isNeg y) (dbl (rung y)) (by omega) (by rw [Nat.pow_zero, Nat.mul_one, hsum, dy]; omega)
  have b2 := nearest_ge neg mag (-1074 + (k : Int)) k 0 (by omega) (isNeg x) (dbl (rung x)) (by omega) (by rw [Nat.pow_zero, Nat.mul_one, hsum, dx]; omega)
  rw [← ht] at b1 b2
  obtain ⟨nt, b1⟩ := b1
  rw [rank_num nt] at b1 b2
  have lt : rung t < infR := by
    have c1 := sv_cases (isNeg t) (rung t)
    have c2 := sv_cases (isNeg x) (dbl (rung x))
    have c3 := sv_cases (isNeg y) (dbl (rung y))
    omega
  have v1 := sv_val_le b1
  have v2 := sv_val_le b2
  rw [dy] at v1
  rw [dx] at v2
  obtain ⟨mag2, place, a, b, hr, hab, hmag⟩ := half_spec lt h2
  have hp : (0 : Int) ≤ ((2 ^ b : Nat) : Int) := Int.natCast_nonneg _
  have c1 := nearest_le (isNeg t) mag2 place a (b + 1) (by omega) (isNeg y) (rung y) (by omega) (by
    rw [hmag, Nat.pow_succ, Nat.mul_comm (2 ^ b) 2, ← Nat.mul_assoc, sv_mul (isNeg t) (val (rung t)), sv_mul (isNeg y) (val (rung y) * 2), sv_mul (isNeg y) (val (rung y)) 2]
    exact Int.mul_le_mul_of_nonneg_right v1 hp)
  have c2 := nearest_ge (isNeg t) mag2 place a (b + 1) (by omega) (isNeg x) (rung x) (by omega) (by
    rw [hmag, Nat.pow_succ, Nat.mul_comm (2 ^ b) 2, ← Nat.mul_assoc, sv_mul (isNeg t) (val (rung t)), sv_mul (isNeg x) (val (rung x) * 2), sv_mul (isNeg x) (val (rung x)) 2]
    exact Int.mul_le_mul_of_nonneg_right v2 hp)
  rw [← hr] at c1 c2
  rw [rank_num nx, rank_num ny]
  exact ⟨c1.1, c2, c1.2⟩
end Go.Proofs.Qxb6630281a.Own
