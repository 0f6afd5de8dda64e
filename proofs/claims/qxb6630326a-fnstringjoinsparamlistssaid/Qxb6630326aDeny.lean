/-
  FnStringDenyAndActionPrefix: the walk.
-/
import Derived.Test.Qxb6630326aTail
set_option linter.unusedSimpArgs false
namespace Go.Proofs.Qxb6630326a.Own
open Go.RowKit

def nsum (ps : List Pm) : Nat := (ps.map (fun p => p.name.size + p.glob.size)).sum
theorem nsum_snoc (l : List Pm) (p : Pm) : nsum (l ++ [p]) = nsum l + (p.name.size + p.glob.size) := by simp [nsum]
theorem total_nsum (l : List Pm) : total l = 40 * l.length + nsum l := by
  induction l with
  | nil => simp [total, nsum]
  | cons p l ih =>
    have e1 : nsum (p :: l) = (p.name.size + p.glob.size) + nsum l := by simp [nsum]
    have e2 : total (p :: l) = psize p + total l := by simp [total]
    rw [e2, e1, ih, List.length_cons]
    unfold psize
    omega

theorem ParamsAt.shape {w : World} {v : Value} {ps : List Pm} (h : ParamsAt w v ps) : ∃ ao cp, v = .slice ao ps.length cp := by
  rcases h with ⟨ao, cp, rfl, rfl⟩ | ⟨b, off, cap, rfl, _, _⟩
  · exact ⟨ao, cp, rfl⟩
  · exact ⟨_, _, rfl⟩

/-- the text under a name -/
theorem string_abs (deny : Bool) (action : ByteArray) (ps : List Pm) (v : Value) (w : World) (hps : ParamsAt w v ps) (hn : ps.length ≤ 1048576) (hsz : action.size + total ps ≤ 4194304) :
    Calls Try.prog 8 #[.agg #[.bool deny, .string action, v]] w fun e w' => ∃ s : ByteArray, e = .returned (.string s) ∧ Hid (s.data.toList = text deny action ps) ∧ Below w.heap.size w w' := by
  refine (string_any deny action ps v w hps hn hsz).mono ?_
  rintro e w' ⟨rfl, hb⟩
  exact ⟨_, rfl, hid (by simp), hb⟩

theorem text_tail (ps : List Pm) : text false ⟨#[]⟩ ps = tailT ps := by simp [text, headT]
theorem text_plain (action : ByteArray) (ps : List Pm) : text false action ps = action.data.toList ++ tailT ps := by simp [text, headT]
theorem text_deny (action : ByteArray) (ps : List Pm) : text true action ps = 33 :: text false action ps := by simp [text, headT]
theorem tail_size (ps : List Pm) : (tailT ps).length ≤ total ps + 1 := by
  have h := opened_le ps
  unfold tailT
  split
  · simp
  · rw [List.length_append, List.length_singleton]; omega

/-- what the four texts say of one another, in the walk's words -/
theorem four {deny : Bool} {action tl pl dn gt : ByteArray} {ps : List Pm} (ht : tl.data.toList = text false ⟨#[]⟩ ps) (hp : pl.data.toList = text false action ps) (hd : dn.data.toList = text true action ps) (hg : gt.data.toList = text deny action ps) :
    (pl.toList == (action ++ tl).toList) = true ∧ (dn.toList == ((⟨#[33]⟩ : ByteArray) ++ pl).toList) = true ∧ (deny = true → (gt.toList == dn.toList) = true) ∧ (deny = false → (gt.toList == pl.toList) = true) := by
  simp only [beq_iff_eq, Lib.toList_data, ByteArray.data_append, Array.toList_append]
  rw [ht, hp, hd, hg, text_tail, text_plain]
  refine ⟨rfl, ?_, ?_, ?_⟩
  · rw [text_deny, text_plain]; rfl
  · intro e; rw [e]
  · intro e; rw [e, text_plain]

theorem tail_open (tl : ByteArray) (ps : List Pm) (ht : tl.data.toList = tailT ps) (h0 : ps.length ≠ 0) (h : 0 < tl.size) : (tl[0].toNat : Int) = 40 := by
  have e : tl.data.toList[0]? = some 40 := by
    rw [ht]
    cases ps with
    | nil => simp at h0
    | cons p ps => simp [tailT, opened]
  have e2 : tl.data.toList[0]? = some tl[0] := List.getElem?_eq_getElem (by simpa using h)
  rw [e2] at e
  rw [Option.some.inj e]
  rfl
theorem tail_shut (tl : ByteArray) (ps : List Pm) (ht : tl.data.toList = tailT ps) (h0 : ps.length ≠ 0) (h : tl.size - 1 < tl.size) : (tl[tl.size - 1].toNat : Int) = 41 := by
  have e : tl.data.toList[tl.size - 1]? = some 41 := by
    rw [Lib.size_eq, ht]
    cases ps with
    | nil => simp at h0
    | cons p ps =>
      have e0 : tailT (p :: ps) = opened (p :: ps) ++ [41] := rfl
      rw [e0]
      simp
  have e2 : tl.data.toList[tl.size - 1]? = some tl[tl.size - 1] := List.getElem?_eq_getElem (by simpa using h)
  rw [e2] at e
  rw [Option.some.inj e]
  rfl
theorem ret_bool {a b : Bool} (h : a = b) : Ending.returned (.bool a) = .returned (.bool b) := by rw [h]

set_option maxHeartbeats 4000000 in
set_option maxRecDepth 100000 in
theorem deny_some (deny : Bool) (action : ByteArray) (ps : List Pm) (b off cap : Nat) (w : World) (hb : b < w.heap.size) (hps : PsAt w b off ps) (hf : Fits ps) (ha : action.size ≤ maxLen) :
    Calls Try.prog 4 #[.bool deny, .string action, .slice (some ⟨b, off, none⟩) ps.length cap] w fun e w' => e = .returned (.bool true) ∧ Below w.heap.size w w' := by
  have hPA : ParamsAt w (.slice (some ⟨b, off, none⟩) ps.length cap) ps := Or.inr ⟨b, off, cap, rfl, hb, hps⟩
  have HP := hid hps
  clear hps
  go_enter Try.func4, Try.ntmps4
  go_wp2_with fail
  refine (bytes10 deny action ps _ _ hPA hf ha).mono ?_
  rintro e w' ⟨r, rfl, rfl, hr⟩
  cases r
  · go_wp2
    go_ret
    exact ⟨rfl, Below.refl _ _⟩
  · obtain ⟨ha1, hn1, hsm⟩ := hr rfl
    have HS := hid hsm
    clear hr hsm
    go_wp2
    all_goals first
      | (go_ret; exact ⟨rfl, Below.refl _ _⟩)
      | skip
    go_loop [7, 8] (fun t i => ∃ k : Nat, k ≤ ps.length ∧ i = .int .i64 k ∧ t = .int .i64 ((action.size : Int) + 40 * (ps.length : Int) + (nsum (ps.take k) : Nat)) ∧ ((action.size : Int) + 40 * (ps.length : Int) + (nsum (ps.take k) : Nat)) ≤ 1048576) (fun _ i => ps.length - (intOf i).toNat)
    case atStart => exact ⟨0, Nat.zero_le _, rfl, by simp [nsum], by simp [nsum]; omega⟩
    case round =>
      obtain ⟨k, hk, rfl, rfl, hT⟩ := hrel
      by_cases hlt : k < ps.length
      · obtain ⟨c0, c1, c2, c3⟩ := HP.out k hlt
        have hsn : nsum (ps.take (k + 1)) = nsum (ps.take k) + (ps[k].name.size + ps[k].glob.size) := by rw [List.take_succ_eq_append_getElem hlt, nsum_snoc]
        have hs1 := HS.out k hlt
        obtain ⟨p, hp⟩ : ∃ p, ps[k] = p := ⟨_, rfl⟩
        rw [hp] at c0 c1 c2 c3 hsn hs1
        clear hp
        have HSN := hid hsn
        clear hsn
        obtain ⟨hs1, hs2⟩ := hs1
        go_wp2
        all_goals first
          | (go_ret; exact ⟨rfl, Below.refl _ _⟩)
          | skip
        go_round
        case rel =>
          have hs := HSN.out
          exact ⟨k + 1, by omega, by go_num, by rw [hs]; congr 1; omega, by omega⟩
        case measure => simp [intOf]; omega
      · have hke : k = ps.length := by omega
        have ht : nsum (ps.take k) = nsum ps := by rw [hke, List.take_length]
        have htot := total_nsum ps
        have hfit : action.size + total ps ≤ 1048576 := by omega
        clear htot ht hke
        go_wp2_with fail
        refine (to_any ps _ _ hPA hn1).mono ?_
        rintro e W1 ⟨pv, rfl, hp1, b1⟩
        obtain ⟨ao, cp, hpv⟩ := hp1.shape
        rw [hpv]
        rw [hpv] at hp1
        clear hpv pv
        have hz1 : w'.heap.size ≤ W1.heap.size := b1.size
        go_wp2_with fail
        refine (string_abs false ⟨#[]⟩ ps _ W1 hp1 hn1 (by have : (⟨#[]⟩ : ByteArray).size = 0 := rfl; omega)).mono ?_
        rintro e W2 ⟨tl, rfl, htl, b2⟩
        have hp2 := hp1.below b2 (Nat.le_refl _)
        go_wp2_with fail
        refine (string_abs false action ps _ W2 hp2 hn1 (by omega)).mono ?_
        rintro e W3 ⟨pl, rfl, hpl, b3⟩
        have hp3 := hp2.below b3 (Nat.le_refl _)
        go_wp2_with fail
        refine (string_abs true action ps _ W3 hp3 hn1 (by omega)).mono ?_
        rintro e W4 ⟨dn, rfl, hdn, b4⟩
        have hp4 := hp3.below b4 (Nat.le_refl _)
        go_wp2_with fail
        refine (string_abs deny action ps _ W4 hp4 hn1 (by omega)).mono ?_
        rintro e W5 ⟨gt, rfl, hgt, b5⟩
        have hB : Below w'.heap.size w' W5 := (((b1.trans (b2.mono hz1)).trans (b3.mono (Nat.le_trans hz1 b2.size))).trans (b4.mono (Nat.le_trans hz1 (Nat.le_trans b2.size b3.size)))).trans (b5.mono (Nat.le_trans hz1 (Nat.le_trans b2.size (Nat.le_trans b3.size b4.size))))
        clear hp1 hp2 hp3 hp4 b1 b2 b3 b4 b5
        obtain ⟨f1, f2, f3, f4⟩ := four htl.out hpl.out hdn.out hgt.out
        have htz : tl.size = (tailT ps).length := by rw [Lib.size_eq, htl.out, text_tail]
        have hpz : pl.size = action.size + (tailT ps).length := by rw [Lib.size_eq, hpl.out, text_plain, List.length_append, ← Lib.size_eq]
        have htt := tail_size ps
        have s1 : ¬ 9223372036854775807 < action.size + tl.size := by omega
        have s2 : ¬ 9223372036854775807 < 1 + pl.size := by omega
        have HTZ := hid htz
        clear hpz htt htz
        by_cases hz : ps.length = 0
        · have hzz : (((ps.length : Nat) : Int) == 0) = true := by rw [hz]; rfl
          have HZ := hid hz
          clear hz
          have hemp : tl.toList.isEmpty = true := by
            rw [Lib.toList_data, htl.out, text_tail, List.eq_nil_of_length_eq_zero HZ.out]; rfl
          cases deny
          case' false => have f5 := f4 rfl
          case' true => have f5 := f3 rfl
          all_goals
            clear f3 f4
            go_wp2
            go_ret
            exact ⟨rfl, hB⟩
        · have hzz : (((ps.length : Nat) : Int) == 0) = false := by simpa using hz
          have HZ := hid hz
          clear hz
          have hpos : 0 < tl.size := by rw [HTZ.out, tail_len ps HZ.out]; omega
          have hopen := tail_open tl ps (by rw [htl.out, text_tail]) HZ.out hpos
          have hshut := hid (tail_shut tl ps (by rw [htl.out, text_tail]) HZ.out (by omega))
          cases deny
          case' false => have f5 := f4 rfl
          case' true => have f5 := f3 rfl
          all_goals
            clear f3 f4
            go_wp2_with fail
            have htl2 := taillen_any ps _ W5 ((hPA.below hB (Nat.le_refl _))) hn1 (by omega) HZ.out
            rw [← HTZ.out] at htl2
            refine htl2.mono ?_
            rintro e W6 ⟨rfl, rfl⟩
            clear htl2
            go_wp2
            go_ret
            exact ⟨ret_bool (by simpa using hshut.out), hB⟩

set_option maxHeartbeats 4000000 in
set_option maxRecDepth 100000 in
theorem deny_nil (deny : Bool) (action : ByteArray) (ao : Option Addr) (cp : Nat) (w : World) (ha : action.size ≤ maxLen) :
    Calls Try.prog 4 #[.bool deny, .string action, .slice ao 0 cp] w fun e w' => e = .returned (.bool true) ∧ Below w.heap.size w w' := by
  have hPA : ParamsAt w (.slice ao 0 cp) [] := Or.inl ⟨_, _, rfl, rfl⟩
  have hf : Fits [] := ⟨by simp, fun i h => absurd h (Nat.not_lt_zero _)⟩
  have hn1 : ([] : List Pm).length ≤ 1048576 := by simp
  have ht0 : total [] = 0 := rfl
  have HT0 := hid ht0
  clear ht0
  go_enter Try.func4, Try.ntmps4
  go_wp2_with fail
  refine (bytes10 deny action [] _ _ hPA hf ha).mono ?_
  rintro e w' ⟨r, rfl, rfl, hr⟩
  cases r
  · go_wp2
    go_ret
    exact ⟨rfl, Below.refl _ _⟩
  · obtain ⟨ha1, _, _⟩ := hr rfl
    clear hr
    go_wp2
    go_loop [7, 8] (fun t i => i = .int .i64 0) (fun _ i => 0)
    case atStart => rfl
    case round =>
      subst hrel
      have hz1 : action.size + total [] ≤ 4194304 := by rw [HT0.out]; omega
      go_wp2_with fail
      refine (to_none ao cp _).mono ?_
      rintro e W1 ⟨ao', rfl, b1⟩
      have hp1 : ParamsAt W1 (.slice ao' 0 0) [] := Or.inl ⟨_, _, rfl, rfl⟩
      go_wp2_with fail
      refine (string_abs false ⟨#[]⟩ [] _ _ hp1 hn1 (by rw [HT0.out]; decide)).mono ?_
      rintro e W2 ⟨tl, rfl, htl, b2⟩
      have hp2 := hp1.below b2 (Nat.le_refl _)
      go_wp2_with fail
      refine (string_abs false action [] _ W2 hp2 hn1 hz1).mono ?_
      rintro e W3 ⟨pl, rfl, hpl, b3⟩
      have hp3 := hp2.below b3 (Nat.le_refl _)
      go_wp2_with fail
      refine (string_abs true action [] _ W3 hp3 hn1 hz1).mono ?_
      rintro e W4 ⟨dn, rfl, hdn, b4⟩
      have hp4 := hp3.below b4 (Nat.le_refl _)
      go_wp2_with fail
      refine (string_abs deny action [] _ W4 hp4 hn1 hz1).mono ?_
      rintro e W5 ⟨gt, rfl, hgt, b5⟩
      have hB0 : Below W1.heap.size W1 W5 := ((b2.trans (b3.mono b2.size)).trans (b4.mono (Nat.le_trans b2.size b3.size))).trans (b5.mono (Nat.le_trans b2.size (Nat.le_trans b3.size b4.size)))
      have hB := b1.trans (hB0.mono b1.size)
      clear hp1 hp2 hp3 hp4 b1 b2 b3 b4 b5 hB0
      obtain ⟨f1, f2, f3, f4⟩ := four htl.out hpl.out hdn.out hgt.out
      have htz : tl.size = 0 := by rw [Lib.size_eq, htl.out, text_tail]; rfl
      have hpz : pl.size = action.size := by rw [Lib.size_eq, hpl.out, text_plain, List.length_append, ← Lib.size_eq]; rfl
      have s1 : ¬ 9223372036854775807 < action.size + tl.size := by omega
      have s2 : ¬ 9223372036854775807 < 1 + pl.size := by omega
      clear hpz htz
      have hemp : tl.toList.isEmpty = true := by
        rw [Lib.toList_data, htl.out, text_tail]; rfl
      cases deny
      case' false => have f5 := f4 rfl
      case' true => have f5 := f3 rfl
      all_goals
        clear f3 f4
        go_wp2
        go_ret
        exact ⟨rfl, hB⟩

theorem deny_any (deny : Bool) (action : ByteArray) (ps : List Pm) (v : Value) (w : World) (hps : ParamsAt w v ps) (hf : Fits ps) (ha : action.size ≤ maxLen) :
    Calls Try.prog 4 #[.bool deny, .string action, v] w fun e w' => e = .returned (.bool true) ∧ Below w.heap.size w w' := by
  rcases hps with ⟨ao, cp, rfl, rfl⟩ | ⟨b, off, cap, rfl, h1, h2⟩
  · exact deny_nil deny action ao cp w ha
  · exact deny_some deny action ps b off cap w h1 h2 hf ha
end Go.Proofs.Qxb6630326a.Own
