/-
  FnStringJoinsParamLists: the walk.
-/
import Derived.Test.Qxb6630326aDeny
import Derived.BigQuiet
import Derived.Deep.QuietTactic
set_option linter.unusedSimpArgs false
namespace Go.Proofs.Qxb6630326a.Own
open Go.RowKit

/-- zzb1Head -/
theorem head_any (deny : Bool) (action : ByteArray) (w : World) (ha : action.size ≤ 1048576) :
    Calls Try.prog 7 #[.bool deny, .string action] w fun e w' => ∃ s : ByteArray, e = .returned (.string s) ∧ Hid (s.data.toList = headT deny action) ∧ w' = w := by
  have s1 : ¬ 9223372036854775807 < 1 + action.size := by omega
  cases deny
  · go_enter Try.func7, Try.ntmps7
    go_wp2
    go_ret
    exact ⟨_, rfl, hid (by simp [headT]), rfl⟩
  · go_enter Try.func7, Try.ntmps7
    go_wp2
    go_ret
    exact ⟨_, rfl, hid (by simp [headT]), rfl⟩

/-- zzb1ParamText -/
theorem ptext_any (p : Pm) (w : World) (h1 : p.name.size ≤ 1048576) (h2 : p.glob.size ≤ 1048576) :
    Calls Try.prog 9 #[.agg #[.bool p.neg, .string p.name, .bool p.hg, .string p.glob]] w fun e w' => ∃ s : ByteArray, e = .returned (.string s) ∧ Hid (s.data.toList = ptext p) ∧ Below w.heap.size w w' := by
  obtain ⟨neg, name, hg, glob⟩ := p
  simp only at h1 h2
  have e1 : ((⟨#[33]⟩ : ByteArray) ++ name).size = 1 + name.size := by rw [ByteArray.size_append]; rfl
  have e2 : (name ++ (⟨#[61]⟩ : ByteArray)).size = name.size + 1 := by rw [ByteArray.size_append]; rfl
  have e3 : ((⟨#[33]⟩ : ByteArray) ++ name ++ (⟨#[61]⟩ : ByteArray)).size = 1 + name.size + 1 := by rw [ByteArray.size_append, e1]; rfl
  have s1 : ¬ 9223372036854775807 < 1 + name.size := by omega
  have s2 : ¬ 9223372036854775807 < name.size + 1 := by omega
  have s3 : ¬ 9223372036854775807 < 1 + name.size + 1 := by omega
  have s4 : ¬ 9223372036854775807 < name.size + 1 + glob.size := by omega
  have s5 : ¬ 9223372036854775807 < 1 + name.size + 1 + glob.size := by omega
  cases neg <;> cases hg
  all_goals
    go_enter Try.func9, Try.ntmps9
    go_wp2
    go_ret
    exact ⟨_, rfl, hid (by simp [ptext]), (Below.refl _ w).alloc (Nat.le_refl _) _⟩

/-! ### the plain law -/
theorem opened_append (a b : List Pm) (h : a ≠ []) : opened (a ++ b) = opened a ++ more b := by
  cases a with
  | nil => exact absurd rfl h
  | cons p a => simp [opened, more]
theorem tail_of (l : List Pm) (h : l ≠ []) : tailT l = opened l ++ [41] := by
  cases l with
  | nil => exact absurd rfl h
  | cons p a => rfl
theorem joins (deny : Bool) (action : ByteArray) (a b : List Pm) (ha : a ≠ []) (hb : b ≠ []) (left right full : List UInt8) (hl : left = text deny action a) (hr : right = text false ⟨#[]⟩ b) (hf : full = text deny action (a ++ b)) :
    full = left.take (left.length - 1) ++ [44] ++ right.drop 1 := by
  have e1 : left = (headT deny action ++ opened a) ++ [41] := by rw [hl, text, tail_of a ha, List.append_assoc]
  have e3 : left.length - 1 = (headT deny action ++ opened a).length := by rw [e1, @List.length_append _ (headT deny action ++ opened a) [41]]; rfl
  have e2 : left.take (left.length - 1) = headT deny action ++ opened a := by rw [e3, e1, List.take_left]
  rw [e2, hr, hf, text_tail, text, tail_of (a ++ b) (by simp [ha]), tail_of b hb, opened_append a b ha]
  cases b with
  | nil => exact absurd rfl hb
  | cons p b => simp [opened, more]
theorem text_last (deny : Bool) (action : ByteArray) (a : List Pm) (ha : a ≠ []) (left : ByteArray) (hl : left.data.toList = text deny action a) : ∃ h : left.size - 1 < left.size, (left[left.size - 1].toNat : Int) = 41 := by
  have e1 : left.data.toList = (headT deny action ++ opened a) ++ [41] := by rw [hl, text, tail_of a ha, List.append_assoc]
  have hs : left.size = (headT deny action ++ opened a).length + 1 := by rw [Lib.size_eq, e1, @List.length_append _ (headT deny action ++ opened a) [41]]; rfl
  have hlt : left.size - 1 < left.size := by omega
  refine ⟨hlt, ?_⟩
  have e : left.data.toList[left.size - 1]? = some 41 := by rw [e1, hs]; simp
  have e2 : left.data.toList[left.size - 1]? = some left[left.size - 1] := List.getElem?_eq_getElem (by simpa using hlt)
  rw [e2] at e
  rw [Option.some.inj e]
  rfl
theorem text_first (b : List Pm) (hb : b ≠ []) (right : ByteArray) (hr : right.data.toList = text false ⟨#[]⟩ b) : ∃ h : 0 < right.size, (right[0].toNat : Int) = 40 := by
  have hpos : 0 < right.size := by
    rw [Lib.size_eq, hr, text_tail, tail_of b hb]; simp
  exact ⟨hpos, tail_open right b (by rw [hr, text_tail]) (fun e => hb (List.eq_nil_of_length_eq_zero e)) hpos⟩

theorem total_drop (ps : List Pm) (k : Nat) : total (ps.drop k) ≤ total ps := by
  have h : total (ps.take k ++ ps.drop k) = total ps := by rw [List.take_append_drop]
  rw [total_append] at h
  omega
theorem text_size (deny : Bool) (action : ByteArray) (ps : List Pm) (h : action.size + total ps ≤ 1048576) : (text deny action ps).length ≤ 4194304 := by
  have h1 := tail_size ps
  have h2 := Lib.size_eq action
  unfold text headT
  cases deny <;> simp <;> omega
theorem take_ne (ps : List Pm) (k : Nat) (h1 : 1 ≤ k) (h2 : k < ps.length) : ps.take k ≠ [] := by
  intro e
  have e2 := congrArg List.length e
  rw [List.length_take, List.length_nil] at e2
  omega
theorem drop_ne (ps : List Pm) (k : Nat) (h2 : k < ps.length) : ps.drop k ≠ [] := by
  intro e
  have e2 := congrArg List.length e
  rw [List.length_drop, List.length_nil] at e2
  omega
/-- the last test, in the walk's words -/
theorem joined (deny : Bool) (action : ByteArray) (ps : List Pm) (k : Nat) (h1 : 1 ≤ k) (h2 : k < ps.length) (fl lf rt : ByteArray) (hf : fl.data.toList = text deny action ps) (hl : lf.data.toList = text deny action (ps.take k)) (hr : rt.data.toList = text false ⟨#[]⟩ (ps.drop k)) :
    (fl.toList == (lf.extract 0 (lf.size - 1) ++ (⟨#[44]⟩ : ByteArray) ++ rt.extract 1 rt.size).toList) = true := by
  have h := joins deny action (ps.take k) (ps.drop k) (take_ne ps k h1 h2) (drop_ne ps k h2) lf.data.toList rt.data.toList fl.data.toList hl hr (by rw [List.take_append_drop]; exact hf)
  simp only [beq_iff_eq, Lib.toList_data, ByteArray.data_append, Array.toList_append, Lib.extract_data]
  rw [h, ← Lib.size_eq]
  rw [List.drop_zero, Nat.sub_zero, List.take_of_length_le (l := rt.data.toList.drop 1) (by rw [List.length_drop, ← Lib.size_eq]; omega)]
theorem one_of (ps : List Pm) (h : ps.length = 1) (p : Pm) (hp : ps[0]'(by omega) = p) : ps = [p] := by
  obtain ⟨q, rfl⟩ := List.length_eq_one_iff.1 h
  rw [← hp]
  rfl

/-- parts of a slice of conditions -/
theorem PsAt.take {w : World} {b off : Nat} {ps : List Pm} (h : PsAt w b off ps) (k : Nat) : PsAt w b off (ps.take k) := by
  intro i hi
  rw [List.getElem_take]
  exact h i (by rw [List.length_take] at hi; omega)
theorem PsAt.drop {w : World} {b off : Nat} {ps : List Pm} (h : PsAt w b off ps) (k : Nat) : PsAt w b (off + k * 4) (ps.drop k) := by
  intro i hi
  rw [List.length_drop] at hi
  rw [List.getElem_drop]
  have := h (k + i) (by omega)
  rw [show off + k * 4 + i * 4 = off + (k + i) * 4 by omega]
  exact this

set_option maxHeartbeats 4000000 in
set_option maxRecDepth 100000 in
theorem joins_some (deny : Bool) (action : ByteArray) (ps : List Pm) (kI : Int) (b off cap : Nat) (w : World) (hb : b < w.heap.size) (hps : PsAt w b off ps) (hf : Fits ps) (ha : action.size ≤ maxLen) :
    Calls Try.prog 3 #[.bool deny, .string action, .slice (some ⟨b, off, none⟩) ps.length cap, .int .i64 kI] w fun e w' => e = .returned (.bool true) ∧ Below w.heap.size w w' := by
  have hPA : ParamsAt w (.slice (some ⟨b, off, none⟩) ps.length cap) ps := Or.inr ⟨b, off, cap, rfl, hb, hps⟩
  have HP := hid hps
  clear hps
  go_enter Try.func3, Try.ntmps3
  go_wp2_with fail
  refine (bytes5 deny action kI ps _ _ hPA hf ha).mono ?_
  rintro e w' ⟨r, rfl, rfl, hr⟩
  cases r
  · go_wp2
    go_ret
    exact ⟨rfl, Below.refl _ _⟩
  · obtain ⟨ha1, hn1, hsm⟩ := hr rfl
    have HS := hid hsm
    clear hr hsm
    go_wp2
    all_goals first
      | (go_ret; exact ⟨rfl, Below.refl _ _⟩)
      | skip
    go_loop [9, 10] (fun t i => ∃ k : Nat, k ≤ ps.length ∧ i = .int .i64 k ∧ t = .int .i64 ((action.size : Int) + 40 * (ps.length : Int) + (nsum (ps.take k) : Nat)) ∧ ((action.size : Int) + 40 * (ps.length : Int) + (nsum (ps.take k) : Nat)) ≤ 1048576) (fun _ i => ps.length - (intOf i).toNat)
    case atStart => exact ⟨0, Nat.zero_le _, rfl, by simp [nsum], by simp [nsum]; omega⟩
    case round =>
      obtain ⟨k, hk, rfl, rfl, hT⟩ := hrel
      by_cases hlt : k < ps.length
      · obtain ⟨c0, c1, c2, c3⟩ := HP.out k hlt
        have hsn : nsum (ps.take (k + 1)) = nsum (ps.take k) + (ps[k].name.size + ps[k].glob.size) := by rw [List.take_succ_eq_append_getElem hlt, nsum_snoc]
        have hs1 := HS.out k hlt
        obtain ⟨p, hp⟩ : ∃ p, ps[k] = p := ⟨_, rfl⟩
        rw [hp] at c0 c1 c2 c3 hsn hs1
        clear hp
        have HSN := hid hsn
        clear hsn
        obtain ⟨hs1, hs2⟩ := hs1
        go_wp2
        all_goals first
          | (go_ret; exact ⟨rfl, Below.refl _ _⟩)
          | skip
        go_round
        case rel =>
          have hs := HSN.out
          exact ⟨k + 1, by omega, by go_num, by rw [hs]; congr 1; omega, by omega⟩
        case measure => simp [intOf]; omega
      · have hke : k = ps.length := by omega
        have ht : nsum (ps.take k) = nsum ps := by rw [hke, List.take_length]
        have htot := total_nsum ps
        have hfit : action.size + total ps ≤ 1048576 := by omega
        clear htot ht hke
        go_wp2_with fail
        refine (to_some ps b off cap _ hb HP.out hn1).mono ?_
        rintro e W1 ⟨rfl, hq1, hqs, b1⟩
        have hp1 : ParamsAt W1 (.slice (some ⟨w'.heap.size, 0, none⟩) ps.length ps.length) ps := Or.inr ⟨_, _, _, rfl, hqs, hq1⟩
        clear hq1 hqs
        have hz1 : w'.heap.size ≤ W1.heap.size := b1.size
        go_wp2_with fail
        refine (head_any deny action W1 ha1).mono ?_
        rintro e W1' ⟨hd, rfl, hhd, rfl⟩
        go_wp2_with fail
        refine (string_abs deny action [] _ _ (Or.inl ⟨_, _, rfl, rfl⟩) (by simp) (by have : total [] = 0 := rfl; omega)).mono ?_
        rintro e W2 ⟨s0, rfl, hs0, b2⟩
        have hp2 := hp1.below b2 (Nat.le_refl _)
        have f0 : (s0.toList == hd.toList) = true := by
          rw [Lib.toList_data, Lib.toList_data, hs0.out, hhd.out, beq_iff_eq]; simp [text, tailT]
        go_wp2_with fail
        refine (string_abs deny action ps _ W2 hp2 hn1 (by omega)).mono ?_
        rintro e W3 ⟨fl, rfl, hfl, b3⟩
        have hp3 := hp2.below b3 (Nat.le_refl _)
        have hB3 : Below w'.heap.size w' W3 := (b1.trans (b2.mono hz1)).trans (b3.mono (Nat.le_trans hz1 b2.size))
        have hz3 : w'.heap.size ≤ W3.heap.size := hB3.size
        clear hp1 hp2 b1 b2 b3
        by_cases h0 : ps.length = 0
        · have h00 : (((ps.length : Nat) : Int) == 0) = true := by rw [h0]; rfl
          have f1 : (fl.toList == hd.toList) = true := by
            rw [Lib.toList_data, Lib.toList_data, hfl.out, hhd.out, beq_iff_eq, List.eq_nil_of_length_eq_zero h0]; simp [text, tailT]
          clear h0
          go_wp2
          go_ret
          exact ⟨rfl, hB3⟩
        · have h00 : (((ps.length : Nat) : Int) == 0) = false := by simpa using h0
          by_cases h1 : ps.length = 1
          · have h11 : (((ps.length : Nat) : Int) == 1) = true := by rw [h1]; rfl
            have H1 := hid h1
            clear h0 h1
            have hlt : (0 : Int) < ((ps.length : Nat) : Int) := by have := H1.out; omega
            obtain ⟨c0, c1, c2, c3⟩ := HP.out 0 (by omega)
            have cc : ∀ j, W3.cell? ⟨b, j, none⟩ = w'.cell? ⟨b, j, none⟩ := fun j => hB3.cell (p := ⟨b, j, none⟩) hb
            rw [← cc] at c0 c1 c2 c3
            clear cc
            simp only [Nat.zero_mul, Nat.add_zero] at c0 c1 c2 c3
            have hs1 := HS.out 0 (by omega)
            obtain ⟨p, hp⟩ : ∃ p, ps[0]'(by omega) = p := ⟨_, rfl⟩
            rw [hp] at c0 c1 c2 c3 hs1
            have HPP := hid hp
            clear hp
            have hdz : hd.size ≤ 1048577 := by
              rw [Lib.size_eq, hhd.out]
              have := Lib.size_eq action
              cases deny <;> simp [headT] <;> omega
            have t1 : ¬ 9223372036854775807 < hd.size + 1 := by omega
            obtain ⟨hs1, hs2⟩ := hs1
            go_wp2_with fail
            refine (ptext_any p W3 hs1 hs2).mono ?_
            rintro e W4 ⟨pt, rfl, hpt, b4⟩
            have hB4 := hB3.trans (b4.mono hz3)
            have hpz : pt.size ≤ 4194304 := by
              rw [Lib.size_eq, hpt.out]
              have := ptext_le p
              unfold psize at this
              omega
            have t2 : ¬ 9223372036854775807 < hd.size + 1 + pt.size := by omega
            have t3 : ¬ 9223372036854775807 < hd.size + 1 + pt.size + 1 := by omega
            have f2 : (fl.toList == (hd ++ (⟨#[40]⟩ : ByteArray) ++ pt ++ (⟨#[41]⟩ : ByteArray)).toList) = true := by
              have hone : ps = [p] := one_of ps H1.out p HPP.out
              simp only [beq_iff_eq, Lib.toList_data, ByteArray.data_append, Array.toList_append]
              rw [hfl.out, hhd.out, hpt.out, hone, text, tail_of [p] (by simp)]
              simp [opened, more]
            clear b4 c0 c1 c2 c3
            go_wp2
            go_ret
            exact ⟨rfl, hB4⟩
          · have h11 : (((ps.length : Nat) : Int) == 1) = false := by simp; omega
            have h2 : 2 ≤ ps.length := by omega
            clear h0 h1
            obtain ⟨hb', hps'⟩ : w'.heap.size < W3.heap.size ∧ PsAt W3 w'.heap.size 0 ps := by
              rcases hp3 with ⟨ao', cp', _, he⟩ | ⟨b', off', cap', he, h1, h2⟩
              · rw [he] at h2; simp at h2
              · injection he with hv1 hv2 hv3
                injection hv1 with hv1
                injection hv1 with hv4 hv5
                subst hv4 hv5
                exact ⟨h1, h2⟩
            have hpL : ∀ kk : Nat, kk ≤ ps.length → ParamsAt W3 (.slice (some ⟨w'.heap.size, 0, none⟩) kk ps.length) (ps.take kk) := by
              intro kk hkk
              have hlk : (ps.take kk).length = kk := by rw [List.length_take]; omega
              exact Or.inr ⟨_, 0, _, by rw [hlk], hb', hps'.take kk⟩
            have hpR : ∀ W4 : World, Below W3.heap.size W3 W4 → ∀ kk : Nat, ParamsAt W4 (.slice (some ⟨w'.heap.size, kk * 4, none⟩) (ps.length - kk) (ps.length - kk)) (ps.drop kk) := by
              intro W4 hb4 kk
              have hdk : (ps.drop kk).length = ps.length - kk := by rw [List.length_drop]
              refine ParamsAt.below (w := W3) (Or.inr ⟨_, kk * 4, _, by rw [hdk], hb', ?_⟩) hb4 (Nat.le_refl _)
              have := hps'.drop kk
              rwa [Nat.zero_add] at this
            have HL := hid hpL
            have HR := hid hpR
            clear hpL hpR hps' hp3
            obtain ⟨kk, g1, g2, hcase⟩ : ∃ kk : Nat, 1 ≤ kk ∧ kk < ps.length ∧ ((kI < 1 ∧ ((ps.length : Nat) : Int) / 2 = (kk : Nat)) ∨ (¬ kI < 1 ∧ ((ps.length : Nat) : Int) ≤ kI ∧ ((ps.length : Nat) : Int) / 2 = (kk : Nat)) ∨ kI = (kk : Nat)) := by
              by_cases hk1 : kI < 1
              · exact ⟨ps.length / 2, by omega, by omega, Or.inl ⟨hk1, by omega⟩⟩
              · by_cases hk2 : ((ps.length : Nat) : Int) ≤ kI
                · exact ⟨ps.length / 2, by omega, by omega, Or.inr (Or.inl ⟨hk1, hk2, by omega⟩)⟩
                · exact ⟨kI.toNat, by omega, by omega, Or.inr (Or.inr (by omega))⟩
            rcases hcase with ⟨hk1, hdiv⟩ | ⟨hk1, hk2, hdiv⟩ | rfl
            all_goals
              go_wp2_with fail
              refine (string_abs deny action (ps.take kk) _ W3 (HL.out kk (by omega)) (by rw [List.length_take]; omega) (by have := total_take ps kk; omega)).mono ?_
              rintro e W4 ⟨lf, rfl, hlf, b4⟩
              have hB4 := hB3.trans (b4.mono hz3)
              go_wp2_with fail
              refine (string_abs false ⟨#[]⟩ (ps.drop kk) _ W4 (HR.out W4 b4 kk) (by rw [List.length_drop]; omega) (by have := total_drop ps kk; have h0 : (⟨#[]⟩ : ByteArray).size = 0 := rfl; omega)).mono ?_
              rintro e W5 ⟨rt, rfl, hrt, b5⟩
              have hB5 := hB4.trans (b5.mono (Nat.le_trans hz3 b4.size))
              obtain ⟨l1, l2⟩ := text_last deny action (ps.take kk) (take_ne ps kk g1 g2) lf hlf.out
              obtain ⟨r1, r2⟩ := text_first (ps.drop kk) (drop_ne ps kk g2) rt hrt.out
              have ls : lf.size ≤ 4194304 := by
                rw [Lib.size_eq, hlf.out]; exact text_size _ _ _ (by have := total_take ps kk; omega)
              have rs : rt.size ≤ 4194304 := by
                rw [Lib.size_eq, hrt.out]; exact text_size _ _ _ (by have := total_drop ps kk; have h0 : (⟨#[]⟩ : ByteArray).size = 0 := rfl; omega)
              have l3 : (((lf.size : Nat) : Int) == 0) = false := beq_eq_false_iff_ne.2 (by omega)
              have r3 : (((rt.size : Nat) : Int) == 0) = false := beq_eq_false_iff_ne.2 (by omega)
              clear b4 b5
              have fj := joined deny action ps kk g1 g2 fl lf rt hfl.out hlf.out hrt.out
              have le1 : (lf.extract 0 (lf.size - 1)).size = lf.size - 1 := by rw [ByteArray.size_extract]; omega
              have re1 : (rt.extract 1 rt.size).size = rt.size - 1 := by rw [ByteArray.size_extract]; omega
              have t1 : ¬ 9223372036854775807 < lf.size - 1 + 1 := by omega
              have t2 : ¬ 9223372036854775807 < lf.size - 1 + 1 + (rt.size - 1) := by omega
              have q1 : (1 : Int) ≤ (lf.size : Nat) := by omega
              have q2 : (1 : Int) ≤ (rt.size : Nat) := by omega
              go_wp2
              go_quiet (fail)
              go_wp2
              go_ret
              exact ⟨rfl, below_drewN hB5 _⟩

set_option maxHeartbeats 4000000 in
set_option maxRecDepth 100000 in
theorem joins_nil (deny : Bool) (action : ByteArray) (kI : Int) (ao : Option Addr) (cp : Nat) (w : World) (ha : action.size ≤ maxLen) :
    Calls Try.prog 3 #[.bool deny, .string action, .slice ao 0 cp, .int .i64 kI] w fun e w' => e = .returned (.bool true) ∧ Below w.heap.size w w' := by
  have hPA : ParamsAt w (.slice ao 0 cp) [] := Or.inl ⟨_, _, rfl, rfl⟩
  have hf : Fits [] := ⟨by simp, fun i h => absurd h (Nat.not_lt_zero _)⟩
  have hn1 : ([] : List Pm).length ≤ 1048576 := by simp
  have ht0 : total [] = 0 := rfl
  have HT0 := hid ht0
  clear ht0
  go_enter Try.func3, Try.ntmps3
  go_wp2_with fail
  refine (bytes5 deny action kI [] _ _ hPA hf ha).mono ?_
  rintro e w' ⟨r, rfl, rfl, hr⟩
  cases r
  · go_wp2
    go_ret
    exact ⟨rfl, Below.refl _ _⟩
  · obtain ⟨ha1, _, _⟩ := hr rfl
    clear hr
    go_wp2
    go_loop [9, 10] (fun t i => i = .int .i64 0) (fun _ i => 0)
    case atStart => rfl
    case round =>
      subst hrel
      have hz1 : action.size + total [] ≤ 4194304 := by rw [HT0.out]; omega
      go_wp2_with fail
      refine (to_none ao cp _).mono ?_
      rintro e W1 ⟨ao', rfl, b1⟩
      have hp1 : ParamsAt W1 (.slice ao' 0 0) [] := Or.inl ⟨_, _, rfl, rfl⟩
      go_wp2_with fail
      refine (head_any deny action W1 ha1).mono ?_
      rintro e W1' ⟨hd, rfl, hhd, rfl⟩
      go_wp2_with fail
      refine (string_abs deny action [] _ _ (Or.inl ⟨_, _, rfl, rfl⟩) hn1 hz1).mono ?_
      rintro e W2 ⟨s0, rfl, hs0, b2⟩
      have hp2 := hp1.below b2 (Nat.le_refl _)
      have f0 : (s0.toList == hd.toList) = true := by
        rw [Lib.toList_data, Lib.toList_data, hs0.out, hhd.out, beq_iff_eq]; simp [text, tailT]
      go_wp2_with fail
      refine (string_abs deny action [] _ W2 hp2 hn1 hz1).mono ?_
      rintro e W3 ⟨fl, rfl, hfl, b3⟩
      have f1 : (fl.toList == hd.toList) = true := by
        rw [Lib.toList_data, Lib.toList_data, hfl.out, hhd.out, beq_iff_eq]; simp [text, tailT]
      have hB := (b1.trans (b2.mono b1.size)).trans (b3.mono (Nat.le_trans b1.size b2.size))
      clear hp1 hp2 b1 b2 b3
      go_wp2
      go_ret
      exact ⟨rfl, hB⟩

theorem joins_any (deny : Bool) (action : ByteArray) (ps : List Pm) (kI : Int) (v : Value) (w : World) (hps : ParamsAt w v ps) (hf : Fits ps) (ha : action.size ≤ maxLen) :
    Calls Try.prog 3 #[.bool deny, .string action, v, .int .i64 kI] w fun e w' => e = .returned (.bool true) ∧ Below w.heap.size w w' := by
  rcases hps with ⟨ao, cp, rfl, rfl⟩ | ⟨b, off, cap, rfl, h1, h2⟩
  · exact joins_nil deny action kI ao cp w ha
  · exact joins_some deny action ps kI b off cap w h1 h2 hf ha
end Go.Proofs.Qxb6630326a.Own
