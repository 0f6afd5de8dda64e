/-
  A PROOF OF 'Rows.FnValidNameModelSaid': the guide's frame for one string; the walk and the plain law are this seat's own (Qxb6630227aCalls, Qxb6630227aPlain).
-/
import Derived.Test.Qxb6630227aRows
import Derived.WalkKit
import Derived.ProofKit
import Derived.OpenShut
import Derived.ShutString
import Derived.Test.Qxb6630227aPlain
namespace Go.Proofs.Qxb6630227a.fnValidNameModel
open Go.ChangeShapes Go.WideShapes Go.ChangeAt Go.RowKit
open Go.ChangeMaps (open_string shut_string)
set_option linter.unusedVariables false      -- a walk need not use every 'w<i>' (that an integer argument fits its kind)

theorem own : ownKnob Try.prog.godebug = none := by kernel_rfl

/-! ### STEP 1: THE WALK: the Go text returns true. 'Grown w w'': the world has at most new blocks (Derived/RowKit3.lean). Part the cases AHEAD of 'go_enter' where a test parts the walk; take each callee by a contract of your own. -/
theorem way1 (a0 : ByteArray) (h1 : (a0.size : Int) ≤ 64) (h2 : 1 ≤ ((Own.firstOut a0.data.toList : Nat) : Int)) (h3 : ((Own.firstOut a0.data.toList : Nat) : Int) = a0.size) : Own.valid a0.data.toList = true := by
  rw [Own.model, ← Lib.size_eq, decide_eq_true (by omega), decide_eq_true (by omega), decide_eq_true (by omega)]
  rfl
theorem way2 (a0 : ByteArray) (h1 : (a0.size : Int) ≤ 64) (h2 : 1 ≤ ((Own.firstOut a0.data.toList : Nat) : Int)) :
    (Own.valid a0.data.toList == (((Own.firstOut a0.data.toList : Nat) : Int) == (a0.size : Int) || (a0.extract (Own.firstOut a0.data.toList) a0.size).toList == [35, 101, 112, 104, 101, 109, 101, 114, 97, 108])) = true := by
  rw [Own.model, ← Lib.size_eq, decide_eq_true (by omega), decide_eq_true (by omega), Lib.extract_toList, List.take_of_length_le (by rw [List.length_drop, ← Lib.size_eq]; omega)]
  rw [beq_iff_eq, Bool.eq_iff_iff]
  simp only [Bool.true_and, Bool.or_eq_true, decide_eq_true_eq, beq_iff_eq, Own.suf]
  exact or_congr (by omega) Iff.rfl
theorem way3 (a0 : ByteArray) (h2 : ((Own.firstOut a0.data.toList : Nat) : Int) < 1) : (!Own.valid a0.data.toList) = true := by
  rw [Own.model, decide_eq_false (p := 1 ≤ Own.firstOut a0.data.toList) (by omega)]
  simp
theorem way4 (a0 : ByteArray) (h2 : 64 < (a0.size : Int)) : (!Own.valid a0.data.toList) = true := by
  rw [Own.model, ← Lib.size_eq, decide_eq_false (p := a0.size ≤ 64) (by omega)]
  simp
set_option maxHeartbeats 400000 in
theorem walk (a0 : ByteArray) (w0 : a0.size ≤ maxLen) (w : World) :
    Calls Try.prog 3 #[.string a0] w fun e w' => e = .returned (.bool true) ∧ Grown w w' := by
  by_cases hbig : 1048576 < a0.size
  · go_enter Try.func3, Try.ntmps3
    go_wp2_with (go_at_call 5; refine (Own.bytes5_no a0 _ hbig).mono ?_; rintro e w' ⟨rfl, rfl⟩)
    go_ret
    exact ⟨rfl, Grown.refl _⟩
  · have hsm : a0.size ≤ 1048576 := by omega
    have hk : Own.firstOut a0.data.toList ≤ a0.size := by rw [Lib.size_eq]; exact Own.firstOut_le _
    clear hbig
    go_enter Try.func3, Try.ntmps3
    go_wp2_with (first | (go_at_call 5; refine (Own.bytes5_yes a0 _ hsm).mono ?_; rintro e w' ⟨rfl, rfl⟩) | (go_at_call 6; refine (Own.first_outside a0 _ w0).mono ?_; rintro e w' ⟨rfl, rfl⟩) | (go_at_call 7; refine (Own.valid_name a0 _ w0).mono ?_; rintro e w' ⟨rfl, rfl⟩))
    · have e := way1 a0 (by assumption) (by assumption) (by assumption)
      go_ret
      exact ⟨Own.ret_bool e, Grown.refl _⟩
    · have e := way2 a0 (by assumption) (by assumption)
      go_ret
      exact ⟨Own.ret_bool e, Grown.refl _⟩
    · have e := way3 a0 (by assumption)
      go_ret
      exact ⟨Own.ret_bool e, Grown.refl _⟩
    · have e := way4 a0 (by assumption)
      go_ret
      exact ⟨Own.ret_bool e, Grown.refl _⟩

/-! ### THE ROW's STEP: WRITTEN OUT: LEAVE IT -/
set_option maxRecDepth 100000 in
theorem lifted (os : Os) (started : os.Started) (H : Type) (enc : TypeId × Value → H) :
    ReturnsInHanded {} Try.checked os 3 .any (Rows.fnValidNameModelSpec.pre6 enc Try.prog Try.f3 Rows.fnValidNameModelRow.domain false) (Rows.fnValidNameModelSpec.post enc Try.prog Try.f3 false true false false) := by
  refine returnsInHanded_of_change (C := Try.checked) own started (by kernel_rfl) Try.func3
    (ChangeSpec.witness6 (enc := enc) (C := Try.checked) false ⟨#[], #[.string ByteArray.empty], []⟩ 8 (by kernel_rfl) (by kernel_rfl) (by kernel_rfl) (by kernel_rfl)) ?_
  intro W base args ds gs before hval0 hW hcnd _
  have hval : ∀ (j : Nat) t v, Try.f3.params[j]? = some t → args[j]? = some v → Value.okWide Try.prog W .any base t v := hval0
  have hW' := hW
  obtain ⟨p, q, hA0, hV, rfl, hfz, hnd⟩ := hW
  have hA : DataW.TrodAll enc Try.prog W 0 (fun _ => true) true Try.f3.params.toList args.toList ds p := hA0
  rw [Try.params3] at hA hval
  obtain ⟨v0, vs0, d0, ds0, p0, q0, hargs, rfl, rfl, h0, r0⟩ := trodAll_cons hA
  obtain ⟨rfl, rfl, rfl⟩ := trodAll_nil r0
  obtain rfl : args = #[v0] := by cases args; simp_all
  obtain ⟨rfl, rfl⟩ := trodVars_none hV
  obtain ⟨a0, rfl, rfl, rfl, w0⟩ := open_string Try.underlying9 (hval 0 9 v0 rfl rfl) h0
  clear hA0 hval0
  simp only [List.append_nil] at hW'
  refine (walk a0 w0 W).mono fun e W' ⟨he, hg⟩ => ?_
  subst he
  exact ⟨_, rfl, post_of_same (pa := []) (pv := []) hW' (fun _ _ _ => (trodAll_cons_mk (shut_bool Try.underlying4 _) trodAll_mk0)) (fun sp _ => (trodAll_cons_mk (shut_string Try.underlying9 w0) trodAll_mk0)) (fun _ _ => rfl) rfl
    (hg.frame _) hg.2.1 (ok_one (by kernel_rfl) rfl (okWide_bool_mk Try.underlying4 _))⟩

theorem over : Rows.fnValidNameModelRow.holds Try.pinned (OpenSpec.ofChange Rows.fnValidNameModelSpec) :=
  OpenClaim.holds_of_wide 3 Try.f3 rfl rfl rfl rfl rfl rfl rfl ⟨rfl, rfl, rfl, rfl, rfl⟩ rfl rfl rfl rfl rfl (by kernel_rfl) Try.func3 (by kernel_rfl)
    (of_decide_eq_true (by kernel_rfl)) (by unfold Func.isWrapper; first | (rw [if_pos (by decide +kernel)]; kernel_rfl) | (rw [if_neg (by decide +kernel)]; exact ⟨rfl, rfl⟩))
    (fun os started H enc _ => lifted os started H enc)

/-- ████ THE STATEMENT ████ -/
theorem proved : Rows.FnValidNameModelSaid :=
  over
end Go.Proofs.Qxb6630227a.fnValidNameModel
