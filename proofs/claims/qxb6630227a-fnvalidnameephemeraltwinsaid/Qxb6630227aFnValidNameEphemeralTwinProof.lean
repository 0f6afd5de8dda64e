/-
  A PROOF OF 'Rows.FnValidNameEphemeralTwinSaid': the guide's frame for one string; the walk and the plain law are this seat's own (Qxb6630227aCalls, Qxb6630227aPlain).
-/
import Derived.Test.Qxb6630227aRows
import Derived.WalkKit
import Derived.ProofKit
import Derived.OpenShut
import Derived.ShutString
import Derived.Test.Qxb6630227aPlain
namespace Go.Proofs.Qxb6630227a.fnValidNameEphemeralTwin
open Go.ChangeShapes Go.WideShapes Go.ChangeAt Go.RowKit
open Go.ChangeMaps (open_string shut_string)
set_option linter.unusedVariables false      -- a walk need not use every 'w<i>' (that an integer argument fits its kind)

theorem own : ownKnob Try.prog.godebug = none := by kernel_rfl

/-! ### STEP 1: THE WALK: the Go text returns true. 'Grown w w'': the world has at most new blocks (Derived/RowKit3.lean). Part the cases AHEAD of 'go_enter' where a test parts the walk; take each callee by a contract of your own. -/
theorem twin_data (a0 : ByteArray) : (a0 ++ (⟨#[35, 101, 112, 104, 101, 109, 101, 114, 97, 108]⟩ : ByteArray)).data.toList = a0.data.toList ++ Own.suf := by
  rw [ByteArray.data_append]
  simp [Own.suf]
theorem twin_at (a0 : ByteArray) (b : Bool) (w : World) (hs : a0.size ≤ 1048576) (h : Own.valid (a0.data.toList ++ Own.suf) = b) :
    Calls Try.prog 7 #[.string (a0 ++ ⟨#[35, 101, 112, 104, 101, 109, 101, 114, 97, 108]⟩)] w fun e w' => e = .returned (.bool b) ∧ w' = w := by
  have hsz : (a0 ++ (⟨#[35, 101, 112, 104, 101, 109, 101, 114, 97, 108]⟩ : ByteArray)).size ≤ maxLen := by
    rw [Lib.size_eq, twin_data, List.length_append, ← Lib.size_eq]
    have : Own.suf.length = 10 := rfl
    unfold maxLen
    omega
  refine (Own.valid_name _ w hsz).mono ?_
  rintro e w' ⟨rfl, rfl⟩
  rw [twin_data, h]
  exact ⟨rfl, rfl⟩
theorem name_at (a0 : ByteArray) (b : Bool) (w : World) (hs : a0.size ≤ maxLen) (h : Own.valid a0.data.toList = b) :
    Calls Try.prog 7 #[.string a0] w fun e w' => e = .returned (.bool b) ∧ w' = w := by
  refine (Own.valid_name _ w hs).mono ?_
  rintro e w' ⟨rfl, rfl⟩
  rw [h]
  exact ⟨rfl, rfl⟩
theorem hash_at (a0 : ByteArray) (b : Bool) (w : World) (hs : a0.size ≤ maxLen) (h : Own.hash a0.data.toList = b) :
    Calls Try.prog 9 #[.string a0] w fun e w' => e = .returned (.bool b) ∧ w' = w := by
  refine (Own.has_hash _ w hs).mono ?_
  rintro e w' ⟨rfl, rfl⟩
  rw [h]
  exact ⟨rfl, rfl⟩
/-- the first outside, under a plain name. -/
theorem first_at (a0 : ByteArray) (k : Nat) (w : World) (hs : a0.size ≤ maxLen) (h : Own.firstOut a0.data.toList = k) :
    Calls Try.prog 6 #[.string a0] w fun e w' => e = .returned (.int .i64 k) ∧ w' = w := by
  refine (Own.first_outside _ w hs).mono ?_
  rintro e w' ⟨rfl, rfl⟩
  rw [h]
  exact ⟨rfl, rfl⟩

set_option maxHeartbeats 1000000 in
theorem walk_small (a0 : ByteArray) (w0 : a0.size ≤ maxLen) (w : World) (hsm : a0.size ≤ 1048576) (got plain has : Bool) (k : Nat)
    (hg : Own.valid (a0.data.toList ++ Own.suf) = got) (hp : Own.valid a0.data.toList = plain) (hh : Own.hash a0.data.toList = has) (hk : Own.firstOut a0.data.toList = k)
    (t1 : got = (decide (1 ≤ a0.size) && decide (a0.size ≤ 54) && decide (k = a0.size))) (t2 : got = (plain && decide (a0.size ≤ 54) && !has)) :
    Calls Try.prog 4 #[.string a0] w fun e w' => e = .returned (.bool true) ∧ Grown w w' := by
  have hG : Hid (Own.valid (a0.data.toList ++ Own.suf) = got) := hg
  have hP : Hid (Own.valid a0.data.toList = plain) := hp
  have hH : Hid (Own.hash a0.data.toList = has) := hh
  have hK : Hid (Own.firstOut a0.data.toList = k) := hk
  clear hg hp hh hk
  by_cases c1 : 1 ≤ a0.size
  · by_cases c2 : a0.size ≤ 54
    · by_cases c3 : k = a0.size
      · have e1 : got = true := by rw [t1, decide_eq_true c1, decide_eq_true c2, decide_eq_true c3]; rfl
        have e2 : plain = true ∧ has = false := by
          rw [e1] at t2
          simpa [c2] using t2.symm
        obtain ⟨e2, e3⟩ := e2
        subst e1 e2 e3
        clear t1 t2
        have c3' : Hid (k = a0.size) := c3
        clear c3
        have c4 : ((k : Nat) : Int) = a0.size := by rw [c3'.out]
        go_enter Try.func4, Try.ntmps4
        go_wp2_with (go_at_call 8; refine (Own.bytes8_yes a0 _ hsm).mono ?_; rintro e w' ⟨rfl, rfl⟩)
        refine (twin_at a0 _ _ hsm hG.out).mono ?_
        rintro e w' ⟨rfl, rfl⟩
        go_wp2_with fail
        refine (name_at a0 _ _ w0 hP.out).mono ?_
        rintro e w' ⟨rfl, rfl⟩
        go_wp2_with (first | (go_at_call 6; refine (first_at a0 _ _ w0 hK.out).mono ?_; rintro e w' ⟨rfl, rfl⟩) | (go_at_call 9; refine (hash_at a0 _ _ w0 hH.out).mono ?_; rintro e w' ⟨rfl, rfl⟩))
        go_ret
        exact ⟨rfl, Grown.refl _⟩
      · have e1 : got = false := by rw [t1, decide_eq_false c3, Bool.and_false]
        have e2 : plain = false ∨ (plain = true ∧ has = true) := by
          rw [e1] at t2
          revert t2
          cases plain <;> cases has <;> simp [c2]
        subst e1
        clear t1 t2
        have c4 : ¬ ((k : Nat) : Int) = a0.size := fun e => c3 (by omega)
        clear c3
        have c5 : (((k : Nat) : Int) == (a0.size : Int)) = false := by simpa using c4
        rcases e2 with e2 | ⟨e2, e3⟩
        · subst e2
          go_enter Try.func4, Try.ntmps4
          go_wp2_with (go_at_call 8; refine (Own.bytes8_yes a0 _ hsm).mono ?_; rintro e w' ⟨rfl, rfl⟩)
          refine (twin_at a0 _ _ hsm hG.out).mono ?_
          rintro e w' ⟨rfl, rfl⟩
          go_wp2_with fail
          refine (name_at a0 _ _ w0 hP.out).mono ?_
          rintro e w' ⟨rfl, rfl⟩
          go_wp2_with (first | (go_at_call 6; refine (first_at a0 _ _ w0 hK.out).mono ?_; rintro e w' ⟨rfl, rfl⟩) | (go_at_call 9; refine (hash_at a0 _ _ w0 hH.out).mono ?_; rintro e w' ⟨rfl, rfl⟩))
          go_ret
          exact ⟨rfl, Grown.refl _⟩
        · subst e2 e3
          go_enter Try.func4, Try.ntmps4
          go_wp2_with (go_at_call 8; refine (Own.bytes8_yes a0 _ hsm).mono ?_; rintro e w' ⟨rfl, rfl⟩)
          refine (twin_at a0 _ _ hsm hG.out).mono ?_
          rintro e w' ⟨rfl, rfl⟩
          go_wp2_with fail
          refine (name_at a0 _ _ w0 hP.out).mono ?_
          rintro e w' ⟨rfl, rfl⟩
          go_wp2_with (first | (go_at_call 6; refine (first_at a0 _ _ w0 hK.out).mono ?_; rintro e w' ⟨rfl, rfl⟩) | (go_at_call 9; refine (hash_at a0 _ _ w0 hH.out).mono ?_; rintro e w' ⟨rfl, rfl⟩))
          go_ret
          exact ⟨rfl, Grown.refl _⟩
    · have e1 : got = false := by rw [t1, decide_eq_false c2, Bool.and_false]; rfl
      subst e1
      clear t1 t2
      cases plain
      · go_enter Try.func4, Try.ntmps4
        go_wp2_with (go_at_call 8; refine (Own.bytes8_yes a0 _ hsm).mono ?_; rintro e w' ⟨rfl, rfl⟩)
        refine (twin_at a0 _ _ hsm hG.out).mono ?_
        rintro e w' ⟨rfl, rfl⟩
        go_wp2_with fail
        refine (name_at a0 _ _ w0 hP.out).mono ?_
        rintro e w' ⟨rfl, rfl⟩
        go_wp2_with (first | (go_at_call 6; refine (first_at a0 _ _ w0 hK.out).mono ?_; rintro e w' ⟨rfl, rfl⟩) | (go_at_call 9; refine (hash_at a0 _ _ w0 hH.out).mono ?_; rintro e w' ⟨rfl, rfl⟩))
        go_ret
        exact ⟨rfl, Grown.refl _⟩
      · go_enter Try.func4, Try.ntmps4
        go_wp2_with (go_at_call 8; refine (Own.bytes8_yes a0 _ hsm).mono ?_; rintro e w' ⟨rfl, rfl⟩)
        refine (twin_at a0 _ _ hsm hG.out).mono ?_
        rintro e w' ⟨rfl, rfl⟩
        go_wp2_with fail
        refine (name_at a0 _ _ w0 hP.out).mono ?_
        rintro e w' ⟨rfl, rfl⟩
        go_wp2_with (first | (go_at_call 6; refine (first_at a0 _ _ w0 hK.out).mono ?_; rintro e w' ⟨rfl, rfl⟩) | (go_at_call 9; refine (hash_at a0 _ _ w0 hH.out).mono ?_; rintro e w' ⟨rfl, rfl⟩))
        go_ret
        exact ⟨rfl, Grown.refl _⟩
  · have e1 : got = false := by rw [t1, decide_eq_false c1]; rfl
    have e2 : plain = false ∨ (plain = true ∧ has = true) := by
      rw [e1, decide_eq_true (show a0.size ≤ 54 by omega)] at t2
      revert t2
      cases plain <;> cases has <;> simp
    subst e1
    clear t1 t2
    rcases e2 with e2 | ⟨e2, e3⟩
    · subst e2
      go_enter Try.func4, Try.ntmps4
      go_wp2_with (go_at_call 8; refine (Own.bytes8_yes a0 _ hsm).mono ?_; rintro e w' ⟨rfl, rfl⟩)
      refine (twin_at a0 _ _ hsm hG.out).mono ?_
      rintro e w' ⟨rfl, rfl⟩
      go_wp2_with fail
      refine (name_at a0 _ _ w0 hP.out).mono ?_
      rintro e w' ⟨rfl, rfl⟩
      go_wp2_with (first | (go_at_call 6; refine (first_at a0 _ _ w0 hK.out).mono ?_; rintro e w' ⟨rfl, rfl⟩) | (go_at_call 9; refine (hash_at a0 _ _ w0 hH.out).mono ?_; rintro e w' ⟨rfl, rfl⟩))
      go_ret
      exact ⟨rfl, Grown.refl _⟩
    · subst e2 e3
      go_enter Try.func4, Try.ntmps4
      go_wp2_with (go_at_call 8; refine (Own.bytes8_yes a0 _ hsm).mono ?_; rintro e w' ⟨rfl, rfl⟩)
      refine (twin_at a0 _ _ hsm hG.out).mono ?_
      rintro e w' ⟨rfl, rfl⟩
      go_wp2_with fail
      refine (name_at a0 _ _ w0 hP.out).mono ?_
      rintro e w' ⟨rfl, rfl⟩
      go_wp2_with (first | (go_at_call 6; refine (first_at a0 _ _ w0 hK.out).mono ?_; rintro e w' ⟨rfl, rfl⟩) | (go_at_call 9; refine (hash_at a0 _ _ w0 hH.out).mono ?_; rintro e w' ⟨rfl, rfl⟩))
      go_ret
      exact ⟨rfl, Grown.refl _⟩

theorem walk (a0 : ByteArray) (w0 : a0.size ≤ maxLen) (w : World) :
    Calls Try.prog 4 #[.string a0] w fun e w' => e = .returned (.bool true) ∧ Grown w w' := by
  by_cases hbig : 1048576 < a0.size
  · go_enter Try.func4, Try.ntmps4
    go_wp2_with (go_at_call 8; refine (Own.bytes8_no a0 _ hbig).mono ?_; rintro e w' ⟨rfl, rfl⟩)
    go_ret
    exact ⟨rfl, Grown.refl _⟩
  · exact walk_small a0 w0 w (by omega) _ _ _ _ rfl rfl rfl rfl (by rw [Own.twin1, ← Lib.size_eq]) (by rw [Own.twin2, ← Lib.size_eq])

/-! ### THE ROW's STEP: WRITTEN OUT: LEAVE IT -/
set_option maxRecDepth 100000 in
theorem lifted (os : Os) (started : os.Started) (H : Type) (enc : TypeId × Value → H) :
    ReturnsInHanded {} Try.checked os 4 .any (Rows.fnValidNameEphemeralTwinSpec.pre6 enc Try.prog Try.f4 Rows.fnValidNameEphemeralTwinRow.domain false) (Rows.fnValidNameEphemeralTwinSpec.post enc Try.prog Try.f4 false true false false) := by
  refine returnsInHanded_of_change (C := Try.checked) own started (by kernel_rfl) Try.func4
    (ChangeSpec.witness6 (enc := enc) (C := Try.checked) false ⟨#[], #[.string ByteArray.empty], []⟩ 8 (by kernel_rfl) (by kernel_rfl) (by kernel_rfl) (by kernel_rfl)) ?_
  intro W base args ds gs before hval0 hW hcnd _
  have hval : ∀ (j : Nat) t v, Try.f4.params[j]? = some t → args[j]? = some v → Value.okWide Try.prog W .any base t v := hval0
  have hW' := hW
  obtain ⟨p, q, hA0, hV, rfl, hfz, hnd⟩ := hW
  have hA : DataW.TrodAll enc Try.prog W 0 (fun _ => true) true Try.f4.params.toList args.toList ds p := hA0
  rw [Try.params4] at hA hval
  obtain ⟨v0, vs0, d0, ds0, p0, q0, hargs, rfl, rfl, h0, r0⟩ := trodAll_cons hA
  obtain ⟨rfl, rfl, rfl⟩ := trodAll_nil r0
  obtain rfl : args = #[v0] := by cases args; simp_all
  obtain ⟨rfl, rfl⟩ := trodVars_none hV
  obtain ⟨a0, rfl, rfl, rfl, w0⟩ := open_string Try.underlying9 (hval 0 9 v0 rfl rfl) h0
  clear hA0 hval0
  simp only [List.append_nil] at hW'
  refine (walk a0 w0 W).mono fun e W' ⟨he, hg⟩ => ?_
  subst he
  exact ⟨_, rfl, post_of_same (pa := []) (pv := []) hW' (fun _ _ _ => (trodAll_cons_mk (shut_bool Try.underlying4 _) trodAll_mk0)) (fun sp _ => (trodAll_cons_mk (shut_string Try.underlying9 w0) trodAll_mk0)) (fun _ _ => rfl) rfl
    (hg.frame _) hg.2.1 (ok_one (by kernel_rfl) rfl (okWide_bool_mk Try.underlying4 _))⟩

theorem over : Rows.fnValidNameEphemeralTwinRow.holds Try.pinned (OpenSpec.ofChange Rows.fnValidNameEphemeralTwinSpec) :=
  OpenClaim.holds_of_wide 4 Try.f4 rfl rfl rfl rfl rfl rfl rfl ⟨rfl, rfl, rfl, rfl, rfl⟩ rfl rfl rfl rfl rfl (by kernel_rfl) Try.func4 (by kernel_rfl)
    (of_decide_eq_true (by kernel_rfl)) (by unfold Func.isWrapper; first | (rw [if_pos (by decide +kernel)]; kernel_rfl) | (rw [if_neg (by decide +kernel)]; exact ⟨rfl, rfl⟩))
    (fun os started H enc _ => lifted os started H enc)

/-- ████ THE STATEMENT ████ -/
theorem proved : Rows.FnValidNameEphemeralTwinSaid :=
  over
end Go.Proofs.Qxb6630227a.fnValidNameEphemeralTwin
