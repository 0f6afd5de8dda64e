/-
  FnMedianPaddingKeepsItAndStaysInRange: the walk.
-/
import Derived.Test.Qxb6630281aMain1
import Derived.Maps.AppendAt
namespace Go.Proofs.Qxb6630281a.Own
open Go.RowKit

/-- what the first loop asks of an element -/
def okEl (A B x : Nat) : Prop := isNaNB x = false ∧ rank A ≤ rank x ∧ rank x ≤ rank B
def top300 : Nat := 9094988921128908188
def inB (x : Nat) : Prop := rank x ≤ (top300 : Int) ∧ -(top300 : Int) ≤ rank x
/-- the padded row -/
def pad (A B n : Nat) (G : Nat → Nat) (j : Nat) : Nat := if j = 0 then A else if j ≤ n then G (j - 1) else B
/-- the plain law -/
def Law2 : Prop := ∀ (G : Nat → Nat) (n A B m p : Nat), 0 < n → (∀ i, i < n → okEl A B (G i)) → Med (listOf G n) m → Med (listOf (pad A B n G) (n + 2)) p →
  sameB p m = true ∧ ((∀ i, i < n → inB (G i)) → ∀ l h, (∀ i, i < n → rank l ≤ rank (G i) ∧ rank (G i) ≤ rank h) → isNaNB m = false ∧ rank l ≤ rank m ∧ rank m ≤ rank h)

theorem t_nan (x : Nat) : (FloatKind.f64.format.order x x != some .eq) = isNaNB x := by
  show (Ieee.double.order x x != some .eq) = _
  rw [test_neq, eqB_self, Bool.not_not]
theorem t_lss (x y : Nat) : (FloatKind.f64.format.order x y == some .lt) = lssB x y := test_lss x y
theorem t_gtr (x y : Nat) : (FloatKind.f64.format.order x y == some .gt) = lssB y x := test_gtr x y
theorem t_leq (x y : Nat) : (FloatKind.f64.format.order x y == some .lt || FloatKind.f64.format.order x y == some .eq) = (lssB x y || eqB x y) := by
  show (Ieee.double.order x y == some .lt || Ieee.double.order x y == some .eq) = _
  rw [test_lss, test_eq]
theorem leq_true {x y : Nat} (hx : isNaNB x = false) (hy : isNaNB y = false) (h : rank x ≤ rank y) : (lssB x y || eqB x y) = true := by
  unfold lssB eqB
  rw [hx, hy]
  simp
  omega

theorem ok_of_tests {A B x : Nat} (hA : isNaNB A = false) (hB : isNaNB B = false) (h1 : isNaNB x = false) (h2 : lssB x A = false) (h3 : lssB B x = false) : okEl A B x := by
  unfold lssB at h2 h3
  rw [h1, hA] at h2
  rw [h1, hB] at h3
  simp at h2 h3
  exact ⟨h1, h2, h3⟩

/-- what the second loop has found when j elements are seen -/
def Scan (G : Nat → Nat) (j l h : Nat) (bd : Bool) : Prop := isNaNB l = false ∧ isNaNB h = false ∧ (∀ t, t < j → rank l ≤ rank (G t) ∧ rank (G t) ≤ rank h) ∧ (bd = true → ∀ t, t < j → inB (G t))
def Rel2 (G : Nat → Nat) (n : Nat) (vl vh vb vi : Value) : Prop := ∃ (j l h : Nat) (bd : Bool), j ≤ n ∧ vi = .int .i64 j ∧ vl = .float .f64 l ∧ vh = .float .f64 h ∧ vb = .bool bd ∧ Scan G j l h bd
def negTop : Nat := 18318360957983683996
theorem rank_top : rank 9094988921128908188 = (top300 : Int) := by decide
theorem rank_negTop : rank 18318360957983683996 = -(top300 : Int) := by decide
theorem lssB_num {x y : Nat} (hx : isNaNB x = false) (hy : isNaNB y = false) : lssB x y = decide (rank x < rank y) := by
  unfold lssB
  rw [hx, hy]
  rfl
theorem scan_step {G : Nat → Nat} {j l h : Nat} {bd : Bool} (hs : Scan G j l h bd) (hx : isNaNB (G j) = false) :
    Scan G (j + 1) (if lssB (G j) l = true then G j else l) (if lssB h (G j) = true then G j else h) (if (lssB 9094988921128908188 (G j) || lssB (G j) 18318360957983683996) = true then false else bd) := by
  obtain ⟨h1, h2, h3, h4⟩ := hs
  rw [lssB_num hx h1, lssB_num h2 hx, lssB_num (by decide) hx, lssB_num hx (by decide), rank_top, rank_negTop]
  simp only [decide_eq_true_eq, Bool.or_eq_true]
  refine ⟨?_, ?_, fun t ht => ⟨?_, ?_⟩, fun hb t ht => ?_⟩
  · split
    · exact hx
    · exact h1
  · split
    · exact hx
    · exact h2
  · by_cases e : t = j
    · subst e; split <;> omega
    · have := (h3 t (by omega)).1
      split <;> omega
  · by_cases e : t = j
    · subst e; split <;> omega
    · have := (h3 t (by omega)).2
      split <;> omega
  · by_cases c : (top300 : Int) < rank (G j) ∨ rank (G j) < -(top300 : Int)
    · rw [if_pos c] at hb; cases hb
    · rw [if_neg c] at hb
      by_cases e : t = j
      · subst e
        exact ⟨by omega, by omega⟩
      · exact h4 hb t (by omega)

/-- the three appends: the padded row -/
theorem flt_of_owns {W : World} {base n' A B n : Nat} {G : Nat → Nat} {cap : Nat} {g : Nat} (hn' : n' = n + 2) (h : W.ownsRow base 24 1 (.slice (some ⟨g, 0, none⟩) n' cap) n' (([.float .f64 A] ++ (List.range n).map fun i => Value.float .f64 (G i)) ++ [.float .f64 B])) : FltAt W g 0 (n + 2) (pad A B n G) ∧ g < W.heap.size ∧ base ≤ g := by
  obtain ⟨_, hr⟩ := h
  rcases hr with ⟨h0, _⟩ | ⟨g', cap', cur, hv, hb, hg, _, _, _, ht⟩
  · cases h0
  · cases hv
    refine ⟨fun j hj => ?_, (Array.getElem?_eq_some_iff.1 hg).1, hb⟩
    have h1 : (cur.toList.take (n' * 1))[j]? = (([.float .f64 A] ++ (List.range n).map fun i => Value.float .f64 (G i)) ++ [.float .f64 B])[j]? := by rw [ht]
    rw [List.getElem?_take_of_lt (by omega)] at h1
    simp only [World.cell?, hg, Nat.zero_add]
    simp only [Option.isSome_none, Bool.false_eq_true, if_false]
    rw [← Array.getElem?_toList, h1]
    unfold pad
    by_cases h0 : j = 0
    · subst h0; simp
    · rw [if_neg h0]
      by_cases hjn : j ≤ n
      · rw [if_pos hjn, List.getElem?_append_left (by simp; omega), List.getElem?_append_right (by simp; omega)]
        have : j - 1 < n := by omega
        simp [this]
      · rw [if_neg hjn, List.getElem?_append_right (by simp; omega)]
        have : j = n + 1 := by omega
        subst this
        simp

set_option maxRecDepth 100000 in
set_option maxHeartbeats 8000000 in
theorem law2_some (L : Law2) (b off n cap A B : Nat) (G : Nat → Nat) (w : World) (h1 : 1 ≤ n) (h2 : n ≤ 65536) (hb : b < w.heap.size) (hG : FltAt w b off n G) (hA : isNaNB A = false) (hBn : isNaNB B = false) :
    Calls Try.prog 4 #[.slice (some ⟨b, off, none⟩) n cap, .float .f64 A, .float .f64 B] w fun e w' => e = .returned (.bool true) ∧ Below w.heap.size w w' := by
  have hne := fun wx => run_neq_slice_nil_any (P := Try.prog) wx 22 24
  have hmk := make22 n (by omega)
  have HG := hid hG
  have HL := hid L
  clear hG L
  have hcs : ∀ j v, ((List.range n).map fun i => Value.float .f64 (G i))[j]? = some v → w.cell? ⟨b, off + j, none⟩ = some v := by
    intro j v hj
    have hjn : j < n := by
      rcases Nat.lt_or_ge j n with h | h
      · exact h
      · rw [List.getElem?_eq_none (by simpa using h)] at hj; cases hj
    have hv : v = .float .f64 (G j) := by simpa [hjn] using hj.symm
    rw [hv]
    exact HG.out j hjn
  have hgc : (w.alloc (.cells (madeCells #[.float .f64 0] n) 24)).heap[w.heap.size]? = some (.cells (madeCells #[.float .f64 0] n).toList.toArray 24 (0, 0)) := heap_alloc_new w _
  obtain ⟨cs, hcsn⟩ : ∃ cs, cs = (List.range n).map fun i => Value.float .f64 (G i) := ⟨_, rfl⟩
  have hcl : cs.length = n := by rw [hcsn]; simp
  have ho1 : ∀ v ∈ cs, v.oneCell' = true := by
    intro v hv
    rw [hcsn, List.mem_map] at hv
    obtain ⟨i, _, rfl⟩ := hv
    rfl
  rw [← hcsn] at hcs
  have HCS := hid hcsn
  have Hsrc := hid hcs
  have Hcl := hid hcl
  clear hcsn hcs hcl
  have hz9 := zzBytes9_in (some ⟨b, off, none⟩) n cap A B w (by omega)
  rw [decide_eq_true (by omega)] at hz9
  have tA := t_nan A
  have tB := t_nan B
  rw [hA] at tA
  rw [hBn] at tB
  go_enter Try.func4, Try.ntmps4
  go_wp2_with (first
    | (go_at_call 9; refine hz9.mono ?_; rintro e w' ⟨rfl, hww⟩; subst w')
    | (refine wpList_copy_splice rfl (.tmp 42) (.tmp 43) 22 22 rfl 24 Try.underlying22 size24 _ _ _ _ _ _ rfl rfl w.heap.size 0 (madeCells #[.float .f64 0] n).toList 24 hgc cs ?hn ?hpos ?hfit ho1 w.heap.size w ((Below.refl _ w).alloc (Nat.le_refl _) _) (Nat.le_refl _) ?_))
  case hn => rw [Hcl.out]; simp
  case hpos => exact fun _ => Hsrc.out
  case hfit => rw [Hcl.out]; simp [size_madeCells]
  intro w2 HG2 hB2
  have hF2 : FltAt w2 w.heap.size 0 n G := flt_of_splice w2 w.heap.size n G (by rw [← HCS.out]; exact HG2.out)
  have hs2 : w.heap.size < w2.heap.size := (Array.getElem?_eq_some_iff.1 HG2.out).1
  clear HG2 hgc Hsrc hz9 hmk tA tB
  have HF2 := hid hF2
  clear hF2
  go_wp2
  go_loop [8] (fun vi => ∃ i : Nat, i ≤ n ∧ vi = .int .i64 i ∧ ∀ i', i' < i → okEl A B (G i')) (fun vi => n - (intOf vi).toNat)
  case atStart => exact ⟨0, Nat.zero_le _, rfl, fun i' h => absurd h (Nat.not_lt_zero _)⟩
  case round =>
    obtain ⟨i, hi, rfl, hok0⟩ := hrel
    have hok := hid hok0
    clear hok0
    by_cases hlt : i < n
    · have hci := HF2.out i hlt
      rw [Nat.zero_add] at hci
      have t1 := t_nan (G i)
      have t2 := t_gtr A (G i)
      have t3 := t_lss B (G i)
      have hdone : isNaNB (G i) = false → lssB (G i) A = false → lssB B (G i) = false → okEl A B (G i) := ok_of_tests hA hBn
      have HD := hid hdone
      clear hdone
      cases q1 : isNaNB (G i) <;> cases q2 : lssB (G i) A <;> cases q3 : lssB B (G i)
      all_goals
        rw [q1] at t1
        rw [q2] at t2
        rw [q3] at t3
      case false.false.false =>
        go_wp2
        go_round
        case rel =>
          refine ⟨i + 1, by omega, by go_num, fun i' h' => ?_⟩
          by_cases e : i' = i
          · rw [e]; exact HD.out q1 q2 q3
          · exact hok.out i' (by omega)
        case measure => simp [intOf]; omega
      all_goals
        go_wp2
        go_ret
        exact ⟨rfl, hB2⟩
    · obtain rfl : i = n := by omega
      have cM := median_row w.heap.size 0 i i G h1 (by omega) w2 hs2 HF2.out
      obtain ⟨i0, hi0, hz0, hz1, hz2⟩ := info_parts info24
      go_wp2_with (first
        | (go_at_call 6; refine cM.mono ?_; rintro e w3 ⟨⟨m, rfl, hM⟩, hB3⟩; have HM := hid hM; clear hM cM
           obtain ⟨w4, hmk2, hrow4, hgrow4⟩ := run_make_own (P := Try.prog) w3 w3.heap.size 22 24 i0 (.float .f64 0) 1 Try.underlying22 hi0 hz0 hz1 .i64 .i64 (i + 2) (by rw [hz2]; omega) (by unfold maxLen; omega) (Nat.le_refl _)
           rw [show ((i + 2 : Nat) : Int) = (i : Int) + 2 by omega] at hmk2
           have hB4 : Below w3.heap.size w3 w4 := (Below.refl _ w3).grown hgrow4 (Nat.le_refl _) (fun k e => by cases e)
           clear hgrow4)
        | (refine wpList_append_own_at _ rfl (.tmp 75) (.tmp 77) 22 rfl w3.heap.size 24 i0 (.float .f64 0) 1 8 Try.underlying22 hi0 hz0 hz1 hz2 rfl (by decide) (.slice (some ⟨w3.heap.size, 0, none⟩) 0 (i + 2)) 0 [] rfl (hrow4.alloc _) ⟨w4.heap.size, 0, none⟩ 1 1 [.float .f64 A] rfl rfl (cell_one_new _ _ _) (by simp [Value.oneCell']) (by unfold maxLen; omega) (by omega) (by have := hB4.size; simp; omega) ?_))
      intro v5 w5 hrow5 hgrow5 _ _
      have hB5 : Below w3.heap.size w3 w5 := (hB4.alloc hB4.size _).grown hgrow5 (by have := hB4.size; simp; omega) (fun k e => (hrow4.lt k e).1)
      have hrow5' : w5.ownsRow w3.heap.size 24 1 v5 1 [.float .f64 A] := by simpa using hrow5
      obtain ⟨g5, cap5, hv5⟩ : ∃ g cap, v5 = .slice (some ⟨g, 0, none⟩) 1 cap := ownsRow_succ hrow5'
      subst hv5
      have hsrc5 : ∀ j u, cs[j]? = some u → w5.cell? ((⟨w.heap.size, 0, none⟩ : Addr).add j) = some u := by
        intro j u hj
        rw [HCS.out] at hj
        have hjn : j < i := by
          rcases Nat.lt_or_ge j i with h | h
          · exact h
          · rw [List.getElem?_eq_none (by simpa using h)] at hj; cases hj
        have hv : u = .float .f64 (G j) := by simpa [hjn] using hj.symm
        rw [hv, Go.WideShapes.add_plain, hB5.cell (p := ⟨w.heap.size, 0 + j, none⟩) (Nat.lt_of_lt_of_le hs2 hB3.size), hB3.cell (p := ⟨w.heap.size, 0 + j, none⟩) hs2]
        exact HF2.out j hjn
      have Hsrc5 := hid hsrc5
      clear hrow5 hgrow5 hrow4 hB4 hsrc5
      go_wp2_with (refine wpList_append_own_at _ rfl (.tmp 79) (.tmp 80) 22 rfl w3.heap.size 24 i0 (.float .f64 0) 1 8 Try.underlying22 hi0 hz0 hz1 hz2 rfl (by decide) (.slice (some ⟨g5, 0, none⟩) 1 cap5) 1 _ rfl hrow5' ⟨w.heap.size, 0, none⟩ i i cs rfl (by rw [Hcl.out, Nat.mul_one]) Hsrc5.out ho1 (by unfold maxLen; omega) (by omega) hB5.size ?_)
      intro v6 w6 hrow6 hgrow6 _ _
      have hB6 : Below w3.heap.size w3 w6 := hB5.grown hgrow6 hB5.size (fun k e => (hrow5'.lt k e).1)
      have hrow6' : w6.ownsRow w3.heap.size 24 1 v6 (i + 1) ([.float .f64 A] ++ cs) := by rw [Nat.add_comm i 1]; exact hrow6
      obtain ⟨g6, cap6, hv6⟩ : ∃ g cap, v6 = .slice (some ⟨g, 0, none⟩) (i + 1) cap := ownsRow_succ hrow6'
      subst hv6
      clear hrow6 hgrow6 hrow5' hB5 Hsrc5
      go_wp2_with (refine wpList_append_own_at _ rfl (.tmp 82) (.tmp 84) 22 rfl w3.heap.size 24 i0 (.float .f64 0) 1 8 Try.underlying22 hi0 hz0 hz1 hz2 rfl (by decide) (.slice (some ⟨g6, 0, none⟩) (i + 1) cap6) (i + 1) _ rfl (hrow6'.alloc _) ⟨w6.heap.size, 0, none⟩ 1 1 [.float .f64 B] rfl rfl (cell_one_new _ _ _) (by simp [Value.oneCell']) (by unfold maxLen; omega) (by omega) (by have := hB6.size; simp; omega) ?_)
      intro v7 w7 hrow7 hgrow7 _ _
      have hB7 : Below w3.heap.size w3 w7 := (hB6.alloc hB6.size _).grown hgrow7 (by have := hB6.size; simp; omega) (fun k e => (hrow6'.lt k e).1)
      obtain ⟨g7, cap7, hv7⟩ : ∃ g cap, v7 = .slice (some ⟨g, 0, none⟩) (i + 2) cap := ownsRow_succ hrow7
      subst hv7
      rw [HCS.out] at hrow7
      obtain ⟨hF7, hg7, hg7'⟩ := flt_of_owns rfl hrow7
      have cP := median_row g7 0 (i + 2) cap7 (pad A B i G) (by omega) (by omega) w7 hg7 hF7
      have hF7g : FltAt w7 w.heap.size 0 i G := (HF2.out.below hB3 hs2).below hB7 (Nat.lt_of_lt_of_le hs2 hB3.size)
      have HF7 := hid hF7g
      have hs7 : w.heap.size < w7.heap.size := Nat.lt_of_lt_of_le (Nat.lt_of_lt_of_le hs2 hB3.size) hB7.size
      have hBw7 : Below w.heap.size w w7 := (hB2.trans (hB3.mono (Nat.le_of_lt hs2))).trans (hB7.mono (Nat.le_trans (Nat.le_of_lt hs2) hB3.size))
      clear hrow7 hgrow7 hrow6' hB6 hF7 hF7g hg7 hg7' hB7
      go_wp2_with (first
        | (go_at_call 6; refine cP.mono ?_; rintro e w8 ⟨⟨p, rfl, hP⟩, hB8⟩
           have hlaw := HL.out G i A B m p h1 hok.out HM.out hP
           have cS := b1Same_in p m w8
           rw [hlaw.1] at cS
           have HLaw := hid hlaw.2
           have hF8 : FltAt w8 w.heap.size 0 i G := HF7.out.below hB8 hs7
           have hc8 := hF8 0 h1
           rw [Nat.zero_add] at hc8
           have HF8 := hid hF8
           have hBw8 : Below w.heap.size w w8 := hBw7.trans (hB8.mono (Nat.le_of_lt hs7))
           clear cP hP hB8 hlaw hF8 HL)
        | (go_at_call 8; refine cS.mono ?_; rintro e w9 ⟨rfl, hww⟩; subst w9; clear cS))
      have H0 : Rel2 G i (.float .f64 (G 0)) (.float .f64 (G 0)) (.bool true) (.int .i64 (0 : Nat)) := ⟨0, G 0, G 0, true, Nat.zero_le _, rfl, rfl, rfl, rfl, (hok.out 0 h1).1, (hok.out 0 h1).1, fun t ht => absurd ht (Nat.not_lt_zero _), fun _ t ht => absurd ht (Nat.not_lt_zero _)⟩
      clear HF2 hB2 hB3 hs2 HF7 hs7 hBw7 HCS Hcl ho1 hi0 hz0 hz1 hz2 hc8 HM
      go_loop [13, 14, 15, 16] (fun vl vh vb vi => Rel2 G i vl vh vb vi) (fun _ _ _ vi => i - (intOf vi).toNat)
      case atStart => exact H0
      case round =>
        obtain ⟨j, l, h, bd, hj, rfl, rfl, rfl, rfl, hS0⟩ := hrel
        have HS := hid hS0
        clear hS0 H0
        by_cases hjlt : j < i
        · have hcj := HF8.out j hjlt
          rw [Nat.zero_add] at hcj
          have hx := (hok.out j hjlt).1
          have t1 := t_lss (G j) l
          have t2 := t_gtr (G j) h
          have t3 := t_gtr (G j) 9094988921128908188
          have t4 := t_lss (G j) 18318360957983683996
          have st := scan_step HS.out hx
          clear hx
          cases q1 : lssB (G j) l <;> cases q2 : lssB h (G j) <;> cases q3 : lssB 9094988921128908188 (G j) <;> cases q4 : lssB (G j) 18318360957983683996
          all_goals
            rw [q1] at t1
            rw [q2] at t2
            rw [q3] at t3
            rw [q4] at t4
            rw [q1, q2, q3, q4] at st
            have ST := hid st
            clear st
            go_wp2
            go_round
            case rel => exact ⟨j + 1, _, _, _, by omega, by go_num, rfl, rfl, rfl, ST.out⟩
            case measure => simp [intOf]; omega
        · obtain rfl : j = i := by omega
          obtain ⟨s1, s2, s3, s4⟩ := HS.out
          cases bd
          · clear s1 s2 s3 s4
            go_wp2
            go_ret
            exact ⟨rfl, hBw8⟩
          · obtain ⟨m1, m2, m3⟩ := HLaw.out (s4 rfl) l h s3
            have u1 := t_leq l m
            have u2 := t_leq m h
            rw [leq_true s1 m1 m2] at u1
            rw [leq_true m1 s2 m3] at u2
            clear s1 s2 s3 s4 m1 m2 m3
            go_wp2
            go_ret
            exact ⟨rfl, hBw8⟩

set_option maxRecDepth 100000 in
set_option maxHeartbeats 2000000 in
theorem law2_big (ao : Option Addr) (n cap A B : Nat) (w : World) (hn : n < 9223372036854775808) (h : 65536 < n ∨ n = 0 ∨ (n ≤ 65536 ∧ 0 < n ∧ (isNaNB A = true ∨ (isNaNB A = false ∧ isNaNB B = true)))) :
    Calls Try.prog 4 #[.slice ao n cap, .float .f64 A, .float .f64 B] w fun e w' => e = .returned (.bool true) ∧ Below w.heap.size w w' := by
  have hz9 := zzBytes9_in ao n cap A B w hn
  have tA := t_nan A
  have tB := t_nan B
  by_cases hb : n ≤ 1048576
  · rw [decide_eq_true hb] at hz9
    rcases h with h | h | ⟨h, h0, hq⟩
    · go_enter Try.func4, Try.ntmps4
      go_wp2_with (go_at_call 9; refine hz9.mono ?_; rintro e w' ⟨rfl, hww⟩; subst w')
      go_ret
      exact ⟨rfl, Below.refl _ _⟩
    · subst h
      go_enter Try.func4, Try.ntmps4
      go_wp2_with (go_at_call 9; refine hz9.mono ?_; rintro e w' ⟨rfl, hww⟩; subst w')
      go_ret
      exact ⟨rfl, Below.refl _ _⟩
    · rcases hq with hq | ⟨hq, hq2⟩
      · rw [hq] at tA
        go_enter Try.func4, Try.ntmps4
        go_wp2_with (go_at_call 9; refine hz9.mono ?_; rintro e w' ⟨rfl, hww⟩; subst w')
        go_ret
        exact ⟨rfl, Below.refl _ _⟩
      · rw [hq] at tA
        rw [hq2] at tB
        go_enter Try.func4, Try.ntmps4
        go_wp2_with (go_at_call 9; refine hz9.mono ?_; rintro e w' ⟨rfl, hww⟩; subst w')
        go_ret
        exact ⟨rfl, Below.refl _ _⟩
  · rw [decide_eq_false hb] at hz9
    go_enter Try.func4, Try.ntmps4
    go_wp2_with (go_at_call 9; refine hz9.mono ?_; rintro e w' ⟨rfl, hww⟩; subst w')
    go_ret
    exact ⟨rfl, Below.refl _ _⟩
end Go.Proofs.Qxb6630281a.Own
