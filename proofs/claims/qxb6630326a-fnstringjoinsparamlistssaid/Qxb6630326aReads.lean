/-
  The two length guards, the length of a tail: functions that only read the conditions.
-/
import Derived.Test.Qxb6630326aNil
set_option linter.unusedSimpArgs false
namespace Go.Proofs.Qxb6630326a.Own
open Go.RowKit

/-- what the row's own reading gives: every length fits an int -/
def Fits (ps : List Pm) : Prop := ps.length ≤ maxLen ∧ ∀ i (h : i < ps.length), ps[i].name.size ≤ maxLen ∧ ps[i].glob.size ≤ maxLen
/-- what the guard promises -/
def Small (action : ByteArray) (ps : List Pm) : Prop := action.size ≤ 1048576 ∧ ps.length ≤ 1048576 ∧ ∀ i (h : i < ps.length), ps[i].name.size ≤ 1048576 ∧ ps[i].glob.size ≤ 1048576
/-- how a guard ends: with a bool; the world as it was; where it says true all is small -/
def Guarded (action : ByteArray) (ps : List Pm) (w : World) (e : Ending) (w' : World) : Prop := ∃ r, e = .returned (.bool r) ∧ w' = w ∧ (r = true → Small action ps)
theorem Guarded.no (action : ByteArray) (ps : List Pm) (w : World) : Guarded action ps w (.returned (.bool false)) w := ⟨false, rfl, rfl, fun e => by cases e⟩
theorem Guarded.yes {action : ByteArray} {ps : List Pm} {w : World} (h : Small action ps) : Guarded action ps w (.returned (.bool true)) w := ⟨true, rfl, rfl, fun _ => h⟩

set_option maxHeartbeats 2000000 in
theorem bytes10_some (deny : Bool) (action : ByteArray) (ps : List Pm) (b off cap : Nat) (w : World) (hps : PsAt w b off ps) (hf : Fits ps) (ha : action.size ≤ maxLen) :
    Calls Try.prog 10 #[.bool deny, .string action, .slice (some ⟨b, off, none⟩) ps.length cap] w fun e w' => Guarded action ps w e w' := by
  unfold maxLen at ha
  have hn : ps.length ≤ 9223372036854775807 := hf.1
  have HP := hid hps
  have HF := hid hf
  clear hps hf
  go_enter Try.func10, Try.ntmps10
  go_wp2
  all_goals first
    | (go_ret; exact Guarded.no _ _ _)
    | skip
  go_loop [7, 8] (fun z i => ∃ (k : Nat) (t : Int), k ≤ ps.length ∧ i = .int .i64 k ∧ z = .int .i64 t ∧ 0 ≤ t ∧ t ≤ 1048576 ∧ ∀ j (h : j < ps.length), j < k → ps[j].name.size ≤ 1048576 ∧ ps[j].glob.size ≤ 1048576) (fun _ i => ps.length - (intOf i).toNat)
  case atStart => exact ⟨0, _, Nat.zero_le _, rfl, rfl, by omega, by omega, fun j _ hj => absurd hj (Nat.not_lt_zero _)⟩
  case round =>
    obtain ⟨k, t, hk, rfl, rfl, ht0, ht1, hj0⟩ := hrel
    have hj := hid hj0
    clear hj0
    by_cases hlt : k < ps.length
    · obtain ⟨c0, c1, c2, c3⟩ := HP.out k hlt
      have hfi := HF.out.2 k hlt
      obtain ⟨p, hp⟩ : ∃ p, ps[k] = p := ⟨_, rfl⟩
      rw [hp] at c0 c1 c2 c3 hfi
      have hq := hid hp
      clear hp
      obtain ⟨hf1, hf2⟩ := hfi
      unfold maxLen at hf1 hf2
      go_wp2
      all_goals first
        | (go_ret; exact Guarded.no _ _ _)
        | skip
      go_round
      case rel =>
        refine ⟨k + 1, _, by omega, by go_num, rfl, by omega, by omega, fun j h hjk => ?_⟩
        by_cases ej : j = k
        · subst ej
          rw [hq.out]
          exact ⟨by omega, by omega⟩
        · exact hj.out j h (by omega)
      case measure => simp [intOf]; omega
    · go_wp2
      go_ret
      exact Guarded.yes ⟨by omega, by omega, fun i h => hj.out i h (by omega)⟩
set_option maxHeartbeats 2000000 in
theorem bytes10_nil (deny : Bool) (action : ByteArray) (ao : Option Addr) (cp : Nat) (w : World) (ha : action.size ≤ maxLen) :
    Calls Try.prog 10 #[.bool deny, .string action, .slice ao 0 cp] w fun e w' => Guarded action [] w e w' := by
  unfold maxLen at ha
  go_enter Try.func10, Try.ntmps10
  go_wp2
  all_goals first
    | (go_ret; exact Guarded.no _ _ _)
    | skip
  go_loop [7, 8] (fun z i => i = .int .i64 0) (fun _ i => 0)
  case atStart => rfl
  case round =>
    subst hrel
    go_wp2
    go_ret
    exact Guarded.yes ⟨by omega, by simp, fun i h => absurd h (Nat.not_lt_zero _)⟩
theorem bytes10 (deny : Bool) (action : ByteArray) (ps : List Pm) (v : Value) (w : World) (hps : ParamsAt w v ps) (hf : Fits ps) (ha : action.size ≤ maxLen) :
    Calls Try.prog 10 #[.bool deny, .string action, v] w fun e w' => Guarded action ps w e w' := by
  rcases hps with ⟨ao, cp, rfl, rfl⟩ | ⟨b, off, cap, rfl, _, h2⟩
  · exact bytes10_nil deny action ao cp w ha
  · exact bytes10_some deny action ps b off cap w h2 hf ha

set_option maxHeartbeats 2000000 in
theorem bytes5_some (deny : Bool) (action : ByteArray) (kk : Int) (ps : List Pm) (b off cap : Nat) (w : World) (hps : PsAt w b off ps) (hf : Fits ps) (ha : action.size ≤ maxLen) :
    Calls Try.prog 5 #[.bool deny, .string action, .slice (some ⟨b, off, none⟩) ps.length cap, .int .i64 kk] w fun e w' => Guarded action ps w e w' := by
  unfold maxLen at ha
  have hn : ps.length ≤ 9223372036854775807 := hf.1
  have HP := hid hps
  have HF := hid hf
  clear hps hf
  go_enter Try.func5, Try.ntmps5
  go_wp2
  all_goals first
    | (go_ret; exact Guarded.no _ _ _)
    | skip
  go_loop [9, 10] (fun z i => ∃ (k : Nat) (t : Int), k ≤ ps.length ∧ i = .int .i64 k ∧ z = .int .i64 t ∧ 0 ≤ t ∧ t ≤ 1048576 ∧ ∀ j (h : j < ps.length), j < k → ps[j].name.size ≤ 1048576 ∧ ps[j].glob.size ≤ 1048576) (fun _ i => ps.length - (intOf i).toNat)
  case atStart => exact ⟨0, _, Nat.zero_le _, rfl, rfl, by omega, by omega, fun j _ hj => absurd hj (Nat.not_lt_zero _)⟩
  case round =>
    obtain ⟨k, t, hk, rfl, rfl, ht0, ht1, hj0⟩ := hrel
    have hj := hid hj0
    clear hj0
    by_cases hlt : k < ps.length
    · obtain ⟨c0, c1, c2, c3⟩ := HP.out k hlt
      have hfi := HF.out.2 k hlt
      obtain ⟨p, hp⟩ : ∃ p, ps[k] = p := ⟨_, rfl⟩
      rw [hp] at c0 c1 c2 c3 hfi
      have hq := hid hp
      clear hp
      obtain ⟨hf1, hf2⟩ := hfi
      unfold maxLen at hf1 hf2
      go_wp2
      all_goals first
        | (go_ret; exact Guarded.no _ _ _)
        | skip
      go_round
      case rel =>
        refine ⟨k + 1, _, by omega, by go_num, rfl, by omega, by omega, fun j h hjk => ?_⟩
        by_cases ej : j = k
        · subst ej
          rw [hq.out]
          exact ⟨by omega, by omega⟩
        · exact hj.out j h (by omega)
      case measure => simp [intOf]; omega
    · go_wp2
      go_ret
      exact Guarded.yes ⟨by omega, by omega, fun i h => hj.out i h (by omega)⟩
set_option maxHeartbeats 2000000 in
theorem bytes5_nil (deny : Bool) (action : ByteArray) (kk : Int) (ao : Option Addr) (cp : Nat) (w : World) (ha : action.size ≤ maxLen) :
    Calls Try.prog 5 #[.bool deny, .string action, .slice ao 0 cp, .int .i64 kk] w fun e w' => Guarded action [] w e w' := by
  unfold maxLen at ha
  go_enter Try.func5, Try.ntmps5
  go_wp2
  all_goals first
    | (go_ret; exact Guarded.no _ _ _)
    | skip
  go_loop [9, 10] (fun z i => i = .int .i64 0) (fun _ i => 0)
  case atStart => rfl
  case round =>
    subst hrel
    go_wp2
    go_ret
    exact Guarded.yes ⟨by omega, by simp, fun i h => absurd h (Nat.not_lt_zero _)⟩
theorem bytes5 (deny : Bool) (action : ByteArray) (kk : Int) (ps : List Pm) (v : Value) (w : World) (hps : ParamsAt w v ps) (hf : Fits ps) (ha : action.size ≤ maxLen) :
    Calls Try.prog 5 #[.bool deny, .string action, v, .int .i64 kk] w fun e w' => Guarded action ps w e w' := by
  rcases hps with ⟨ao, cp, rfl, rfl⟩ | ⟨b, off, cap, rfl, _, h2⟩
  · exact bytes5_nil deny action kk ao cp w ha
  · exact bytes5_some deny action kk ps b off cap w h2 hf ha

end Go.Proofs.Qxb6630326a.Own
