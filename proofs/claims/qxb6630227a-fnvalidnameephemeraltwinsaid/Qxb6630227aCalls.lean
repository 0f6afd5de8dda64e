import Derived.Test.Qxb6630227aRows
import Derived.WalkKit
import Derived.ProofKit
import Derived.OpenShut
import Derived.ShutString
import Derived.WalkLawsBesides
import Derived.Lib.Strings
import Derived.Outline
namespace Go.Proofs.Qxb6630227a.Own
open Go.ChangeShapes Go.WideShapes Go.ChangeAt Go.RowKit

/-- A byte that may stand in a name, by its number. -/
def okI (n : Int) : Bool := decide ((97 ≤ n ∧ n ≤ 122) ∨ (65 ≤ n ∧ n ≤ 90) ∨ (48 ≤ n ∧ n ≤ 57) ∨ n = 46 ∨ n = 95 ∨ n = 45)

theorem ret_bool {a b : Bool} (h : a = b) : Ending.returned (.bool a) = .returned (.bool b) := by rw [h]
theorem ret_int {k : IntKind} {a b : Int} (h : a = b) : Ending.returned (.int k a) = .returned (.int k b) := by rw [h]

set_option maxHeartbeats 400000 in
theorem name_byte (n : Int) (w : World) (h0 : 0 ≤ n) (h1 : n ≤ 255) :
    Calls Try.prog 12 #[.int .u8 n] w fun e w' => e = .returned (.bool (okI n)) ∧ w' = w := by
  go_enter Try.func12, Try.ntmps12
  go_wp2
  all_goals
    go_ret
    refine ⟨ret_bool ?_, rfl⟩
    rw [Bool.eq_iff_iff]
    simp [okI]
    try omega

def alphaL : List Nat := [97, 98, 99, 100, 101, 102, 103, 104, 105, 106, 107, 108, 109, 110, 111, 112, 113, 114, 115, 116, 117, 118, 119, 120, 121, 122, 65, 66, 67, 68, 69, 70, 71, 72, 73, 74, 75, 76, 77, 78, 79, 80, 81, 82, 83, 84, 85, 86, 87, 88, 89, 90, 48, 49, 50, 51, 52, 53, 54, 55, 56, 57, 46, 95, 45]
def alphaAt (k : Nat) : Nat := alphaL.getD k 0
def alphaB : ByteArray := { data := #[97, 98, 99, 100, 101, 102, 103, 104, 105, 106, 107, 108, 109, 110, 111, 112, 113, 114, 115, 116, 117, 118, 119, 120, 121, 122, 65, 66, 67, 68, 69, 70, 71, 72, 73, 74, 75, 76, 77, 78, 79, 80, 81, 82, 83, 84, 85, 86, 87, 88, 89, 90, 48, 49, 50, 51, 52, 53, 54, 55, 56, 57, 46, 95, 45] }
theorem alpha_at : ∀ (k : Nat) (h : k < alphaB.size), alphaB[k].toNat = alphaAt k := by
  have h : ∀ k : Fin 65, (alphaB.data.toList.getD k.val 0).toNat = alphaAt k.val := by decide +kernel
  intro k hk
  have hk' : k < 65 := hk
  rw [← h ⟨k, hk'⟩]
  show alphaB.data[k].toNat = _
  have hk2 : k < alphaB.data.size := hk
  simp [List.getD_eq_getElem?_getD]
  rw [Array.getElem?_eq_getElem hk2]
  rfl
theorem alpha_ok : ∀ k : Fin 65, okI (alphaAt k.val : Nat) = true := by decide +kernel
theorem alpha_all : ∀ n : Fin 256, okI (n.val : Nat) = true → (List.range 65).any (fun k => alphaAt k == n.val) = true := by decide +kernel

theorem alpha_miss (n : Int) (h0 : 0 ≤ n) (h1 : n ≤ 255) (h : ∀ j : Nat, j < 65 → ((alphaAt j : Nat) : Int) ≠ n) : okI n = false := by
  by_cases e : okI n = true
  · have := alpha_all ⟨n.toNat, by omega⟩ (by show okI ((n.toNat : Nat) : Int) = true; rw [Int.toNat_of_nonneg h0]; exact e)
    simp only [List.any_eq_true, List.mem_range, beq_iff_eq] at this
    obtain ⟨j, hj, e2⟩ := this
    exact absurd (show ((alphaAt j : Nat) : Int) = n by omega) (h j hj)
  · simpa using e

set_option maxHeartbeats 400000 in
theorem in_alpha (n : Int) (w : World) (h0 : 0 ≤ n) (h1 : n ≤ 255) :
    Calls Try.prog 10 #[.int .u8 n] w fun e w' => e = .returned (.bool (okI n)) ∧ w' = w := by
  go_enter Try.func10, Try.ntmps10
  go_wp2
  go_loop [3] (fun i => ∃ k : Nat, k ≤ 65 ∧ i = .int .i64 k ∧ ∀ j : Nat, j < k → ((alphaAt j : Nat) : Int) ≠ n) (fun i => 65 - (intOf i).toNat)
  case atStart => exact ⟨0, Nat.zero_le _, rfl, fun j hj => absurd hj (Nat.not_lt_zero _)⟩
  case round =>
    obtain ⟨k, hk, rfl, hj0⟩ := hrel
    have hj : Hid (∀ j : Nat, j < k → ((alphaAt j : Nat) : Int) ≠ n) := hj0
    clear hj0
    by_cases hlt : k < 65
    · go_wp2
      · rename_i ht _
        have e1 : ((alphaAt k : Nat) : Int) = n := by rw [← alpha_at k hlt]; exact eq_of_beq ht
        have e2 : okI n = true := by rw [← e1]; exact alpha_ok ⟨k, hlt⟩
        go_ret
        exact ⟨ret_bool e2.symm, rfl⟩
      · rename_i ht
        have e1 : ((alphaAt k : Nat) : Int) ≠ n := by rw [← alpha_at k hlt]; exact ne_of_beq_false ht
        go_round
        case rel =>
          refine ⟨k + 1, by omega, by go_num, fun j hjk => ?_⟩
          by_cases ej : j = k
          · rw [ej]; exact e1
          · exact hj.out j (by omega)
        case measure => simp [intOf]; omega
    · go_wp2
      go_ret
      exact ⟨ret_bool (alpha_miss n h0 h1 (fun j hj' => hj.out j (by omega))).symm, rfl⟩

/-! ### the plain functions over a list of bytes -/
def okc (c : UInt8) : Bool := okI (c.toNat : Int)
def firstOut (l : List UInt8) : Nat := l.findIdx (fun c => !okc c)
def suf : List UInt8 := [35, 101, 112, 104, 101, 109, 101, 114, 97, 108]
def base (l : List UInt8) : List UInt8 := Lib.trimSuffix l suf
def valid (l : List UInt8) : Bool := decide (l.length ≤ 64) && (!(base l).isEmpty) && (base l).all okc
def hash (l : List UInt8) : Bool := l.any (fun c => c == 35)

theorem firstOut_hit (s : ByteArray) (k : Nat) (hk : k < s.size) (h : okI (s[k].toNat : Int) = false) (hj : ∀ j : Nat, (h : j < k) → okI ((s[j]'(by omega)).toNat : Int) = true) : firstOut s.data.toList = k := by
  unfold firstOut
  rw [List.findIdx_eq (by simpa using hk)]
  refine ⟨?_, fun j hjk => ?_⟩
  · simp only [okc, Bool.not_eq_true']; exact h
  · simp only [okc, Bool.not_eq_false']; exact hj j hjk

theorem firstOut_miss (s : ByteArray) (hj : ∀ j : Nat, (h : j < s.size) → okI (s[j].toNat : Int) = true) : firstOut s.data.toList = s.size := by
  unfold firstOut
  rw [show s.size = s.data.toList.length from by simp, List.findIdx_eq_length]
  intro x hx
  obtain ⟨j, h, rfl⟩ := List.getElem_of_mem hx
  simp only [okc, Bool.not_eq_false']
  exact hj j (by simpa using h)

set_option maxHeartbeats 400000 in
theorem first_outside (s : ByteArray) (w : World) (hs : s.size ≤ maxLen) :
    Calls Try.prog 6 #[.string s] w fun e w' => e = .returned (.int .i64 (firstOut s.data.toList : Nat)) ∧ w' = w := by
  unfold maxLen at hs
  go_enter Try.func6, Try.ntmps6
  go_wp2
  go_loop [3] (fun i => ∃ k : Nat, k ≤ s.size ∧ i = .int .i64 k ∧ ∀ j : Nat, (h : j < k) → (h2 : j < s.size) → okI (s[j].toNat : Int) = true) (fun i => s.size - (intOf i).toNat)
  case atStart => exact ⟨0, Nat.zero_le _, rfl, fun j hj => absurd hj (Nat.not_lt_zero _)⟩
  case round =>
    obtain ⟨k, hk, rfl, hj0⟩ := hrel
    have hj : Hid (∀ j : Nat, (h : j < k) → (h2 : j < s.size) → okI (s[j].toNat : Int) = true) := hj0
    clear hj0
    by_cases hlt : k < s.size
    · have hb : (s[k].toNat : Int) ≤ 255 := by have := UInt8.toNat_lt s[k]; omega
      by_cases hok : okI (s[k].toNat : Int) = true
      · go_wp2_with (go_at_call 10; refine (in_alpha _ _ (by omega) hb).mono ?_; rintro e w' ⟨rfl, rfl⟩)
        go_round
        case rel =>
          refine ⟨k + 1, by omega, by go_num, fun j hjk h2 => ?_⟩
          by_cases ej : j = k
          · subst ej; exact hok
          · exact hj.out j (by omega) h2
        case measure => simp [intOf]; omega
      · have hok' : okI (s[k].toNat : Int) = false := by simpa using hok
        clear hok
        go_wp2_with (go_at_call 10; refine (in_alpha _ _ (by omega) hb).mono ?_; rintro e w' ⟨rfl, rfl⟩)
        go_ret
        exact ⟨ret_int (by rw [firstOut_hit s k hlt hok' (fun j h => hj.out j h (by omega))]), rfl⟩
    · go_wp2
      go_ret
      exact ⟨ret_int (by rw [firstOut_miss s (fun j h => hj.out j (by omega) h)]), rfl⟩

theorem hash_hit (s : ByteArray) (k : Nat) (hk : k < s.size) (h : (s[k].toNat : Int) = 35) : hash s.data.toList = true := by
  unfold hash
  rw [List.any_eq_true]
  refine ⟨s.data.toList[k]'(by simpa using hk), List.getElem_mem _, ?_⟩
  simp only [beq_iff_eq]
  exact UInt8.toNat_inj.1 (show s[k].toNat = 35 by omega)

theorem hash_miss (s : ByteArray) (hj : ∀ j : Nat, (h : j < s.size) → (s[j].toNat : Int) ≠ 35) : hash s.data.toList = false := by
  unfold hash
  rw [List.any_eq_false]
  intro x hx
  obtain ⟨j, h, rfl⟩ := List.getElem_of_mem hx
  simp only [beq_iff_eq]
  intro e
  refine hj j (by simpa using h) ?_
  show ((s.data.toList[j]).toNat : Int) = 35
  rw [e]; rfl

set_option maxHeartbeats 400000 in
theorem has_hash (s : ByteArray) (w : World) (hs : s.size ≤ maxLen) :
    Calls Try.prog 9 #[.string s] w fun e w' => e = .returned (.bool (hash s.data.toList)) ∧ w' = w := by
  unfold maxLen at hs
  go_enter Try.func9, Try.ntmps9
  go_wp2
  go_loop [3] (fun i => ∃ k : Nat, k ≤ s.size ∧ i = .int .i64 k ∧ ∀ j : Nat, (h : j < k) → (h2 : j < s.size) → (s[j].toNat : Int) ≠ 35) (fun i => s.size - (intOf i).toNat)
  case atStart => exact ⟨0, Nat.zero_le _, rfl, fun j hj => absurd hj (Nat.not_lt_zero _)⟩
  case round =>
    obtain ⟨k, hk, rfl, hj0⟩ := hrel
    have hj : Hid (∀ j : Nat, (h : j < k) → (h2 : j < s.size) → (s[j].toNat : Int) ≠ 35) := hj0
    clear hj0
    by_cases hlt : k < s.size
    · go_wp2
      · rename_i ht _
        have e1 := hash_hit s k hlt (by simpa using ht)
        go_ret
        exact ⟨ret_bool e1.symm, rfl⟩
      · rename_i ht
        have e1 : (s[k].toNat : Int) ≠ 35 := by simpa using ht
        go_round
        case rel =>
          refine ⟨k + 1, by omega, by go_num, fun j hjk h2 => ?_⟩
          by_cases ej : j = k
          · subst ej; exact e1
          · exact hj.out j (by omega) h2
        case measure => simp [intOf]; omega
    · go_wp2
      go_ret
      exact ⟨ret_bool (hash_miss s (fun j h => hj.out j (by omega) h)).symm, rfl⟩

def sufB : ByteArray := ⟨#[35, 101, 112, 104, 101, 109, 101, 114, 97, 108]⟩
theorem base_hit (s : ByteArray) (h1 : 10 ≤ s.size) (h2 : ((s.extract (s.size - 10) s.size).toList == [35, 101, 112, 104, 101, 109, 101, 114, 97, 108]) = true) : (s.extract 0 (s.size - 10)).data.toList = base s.data.toList := by
  have e := Lib.trimSuffix_hit s sufB h1 (by rw [Lib.toList_data sufB]; exact h2)
  have e2 := congrArg (fun b : ByteArray => b.data.toList) e
  simp only [] at e2
  exact e2.symm
theorem base_miss (s : ByteArray) (h : (decide (10 ≤ s.size) && ((s.extract (s.size - 10) s.size).toList == [35, 101, 112, 104, 101, 109, 101, 114, 97, 108])) = false) : s.data.toList = base s.data.toList := by
  have e := Lib.trimSuffix_miss s sufB (by rw [Lib.toList_data sufB]; exact h)
  have e2 := congrArg (fun b : ByteArray => b.data.toList) e
  simp only [] at e2
  exact e2.symm
set_option maxHeartbeats 400000 in
theorem trim (s : ByteArray) (w : World) (hs : s.size ≤ maxLen) :
    Calls Try.prog 11 #[.string s, .string ⟨#[35, 101, 112, 104, 101, 109, 101, 114, 97, 108]⟩] w fun e w' => ∃ b : ByteArray, e = .returned (.string b) ∧ b.data.toList = base s.data.toList ∧ w' = w := by
  unfold maxLen at hs
  go_enter Try.func11, Try.ntmps11
  go_wp2
  · rename_i h1 h2
    have e := base_hit s (by omega) h2
    go_ret
    exact ⟨_, rfl, e, rfl⟩
  · rename_i h1 h2
    have e := base_miss s (by rw [h2]; simp)
    go_ret
    exact ⟨_, rfl, e, rfl⟩
  · rename_i h1
    have e := base_miss s (by rw [decide_eq_false (by omega)]; simp)
    go_ret
    exact ⟨_, rfl, e, rfl⟩

theorem base_le (l : List UInt8) : (base l).length ≤ l.length := Lib.trimSuffix_le _ _

theorem all_ok (b : ByteArray) (hj : ∀ j : Nat, (h : j < b.size) → okI (b[j].toNat : Int) = true) : b.data.toList.all okc = true := by
  rw [List.all_eq_true]
  intro x hx
  obtain ⟨j, h, rfl⟩ := List.getElem_of_mem hx
  exact hj j (by simpa using h)
theorem all_not (b : ByteArray) (k : Nat) (hk : k < b.size) (h : okI (b[k].toNat : Int) = false) : b.data.toList.all okc = false := by
  rw [List.all_eq_false]
  refine ⟨b.data.toList[k]'(by simpa using hk), List.getElem_mem _, ?_⟩
  simp only [okc, Bool.not_eq_true]; exact h

set_option maxHeartbeats 400000 in
theorem valid_name (s : ByteArray) (w : World) (hs : s.size ≤ maxLen) :
    Calls Try.prog 7 #[.string s] w fun e w' => e = .returned (.bool (valid s.data.toList)) ∧ w' = w := by
  have hs0 := hs
  unfold maxLen at hs
  by_cases h64 : s.size ≤ 64
  · go_enter Try.func7, Try.ntmps7
    go_wp2_with fail
    refine (trim s _ hs0).mono ?_
    rintro e w' ⟨b, rfl, hb0, rfl⟩
    have hbs : b.size ≤ 64 := by
      have h1 := base_le s.data.toList
      rw [← hb0] at h1
      have h2 : b.size = b.data.toList.length := Lib.size_eq b
      have h3 : s.size = s.data.toList.length := Lib.size_eq s
      omega
    have hb : Hid (b.data.toList = base s.data.toList) := hb0
    clear hb0
    rcases Bool.eq_false_or_eq_true b.toList.isEmpty with he | he
    · go_wp2
      have hv : valid s.data.toList = false := by
        unfold valid
        rw [← hb.out, ← Lib.toList_data b, he]
        simp
      go_ret
      exact ⟨ret_bool hv.symm, rfl⟩
    · have he2 : Hid (b.toList.isEmpty = false) := he
      go_wp2
      go_loop [4] (fun i => ∃ k : Nat, k ≤ b.size ∧ i = .int .i64 k ∧ ∀ j : Nat, (h : j < k) → (h2 : j < b.size) → okI (b[j].toNat : Int) = true) (fun i => b.size - (intOf i).toNat)
      case atStart => exact ⟨0, Nat.zero_le _, rfl, fun j hj => absurd hj (Nat.not_lt_zero _)⟩
      case round =>
        obtain ⟨k, hk, rfl, hj0⟩ := hrel
        have hj : Hid (∀ j : Nat, (h : j < k) → (h2 : j < b.size) → okI (b[j].toNat : Int) = true) := hj0
        clear hj0
        by_cases hlt : k < b.size
        · have hc : (b[k].toNat : Int) ≤ 255 := by have := UInt8.toNat_lt b[k]; omega
          by_cases hok : okI (b[k].toNat : Int) = true
          · go_wp2_with (go_at_call 12; refine (name_byte _ _ (by omega) hc).mono ?_; rintro e w' ⟨rfl, rfl⟩)
            go_round
            case rel =>
              refine ⟨k + 1, by omega, by go_num, fun j hjk h2 => ?_⟩
              by_cases ej : j = k
              · subst ej; exact hok
              · exact hj.out j (by omega) h2
            case measure => simp [intOf]; omega
          · have hok' : okI (b[k].toNat : Int) = false := by simpa using hok
            clear hok
            have hv : valid s.data.toList = false := by
              unfold valid
              rw [← hb.out, all_not b k hlt hok', Bool.and_false]
            go_wp2_with (go_at_call 12; refine (name_byte _ _ (by omega) hc).mono ?_; rintro e w' ⟨rfl, rfl⟩)
            go_ret
            exact ⟨ret_bool hv.symm, rfl⟩
        · have hv : Hid (valid s.data.toList = true) := by
            show valid s.data.toList = true
            unfold valid
            rw [← hb.out, all_ok b (fun j h => hj.out j (by omega) h), ← Lib.toList_data b, he2.out, decide_eq_true (by rw [← Lib.size_eq]; exact h64)]
            rfl
          go_wp2
          go_ret
          exact ⟨ret_bool hv.out.symm, rfl⟩
  · have hv : valid s.data.toList = false := by
      unfold valid
      rw [decide_eq_false (by rw [← Lib.size_eq]; exact h64)]
      rfl
    go_enter Try.func7, Try.ntmps7
    go_wp2
    go_ret
    exact ⟨ret_bool hv.symm, rfl⟩

set_option maxHeartbeats 400000 in
theorem bytes5_no (s : ByteArray) (w : World) (h : 1048576 < s.size) :
    Calls Try.prog 5 #[.string s] w fun e w' => e = .returned (.bool false) ∧ w' = w := by
  go_enter Try.func5, Try.ntmps5
  go_wp2
  go_ret
  exact ⟨rfl, rfl⟩
set_option maxHeartbeats 400000 in
theorem bytes5_yes (s : ByteArray) (w : World) (h : s.size ≤ 1048576) :
    Calls Try.prog 5 #[.string s] w fun e w' => e = .returned (.bool true) ∧ w' = w := by
  go_enter Try.func5, Try.ntmps5
  go_wp2
  go_ret
  exact ⟨rfl, rfl⟩
set_option maxHeartbeats 400000 in
theorem bytes8_no (s : ByteArray) (w : World) (h : 1048576 < s.size) :
    Calls Try.prog 8 #[.string s] w fun e w' => e = .returned (.bool false) ∧ w' = w := by
  go_enter Try.func8, Try.ntmps8
  go_wp2
  go_ret
  exact ⟨rfl, rfl⟩
set_option maxHeartbeats 400000 in
theorem bytes8_yes (s : ByteArray) (w : World) (h : s.size ≤ 1048576) :
    Calls Try.prog 8 #[.string s] w fun e w' => e = .returned (.bool true) ∧ w' = w := by
  go_enter Try.func8, Try.ntmps8
  go_wp2
  go_ret
  exact ⟨rfl, rfl⟩
end Go.Proofs.Qxb6630227a.Own
