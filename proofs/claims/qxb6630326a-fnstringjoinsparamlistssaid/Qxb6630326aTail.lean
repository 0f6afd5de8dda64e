/-
  zzb1TailLen: how long the written list is; zzb1Head; zzb1ParamText.
-/
import Derived.Test.Qxb6630326aToParams
set_option linter.unusedSimpArgs false
namespace Go.Proofs.Qxb6630326a.Own
open Go.RowKit

def plen (ps : List Pm) : Nat := (ps.map (fun p => (ptext p).length)).sum
theorem plen_snoc (l : List Pm) (p : Pm) : plen (l ++ [p]) = plen l + (ptext p).length := by simp [plen]
theorem plen_le (l : List Pm) : plen l ≤ total l := by
  induction l with
  | nil => simp [plen, total]
  | cons p l ih =>
    have h := ptext_le p
    have e1 : plen (p :: l) = (ptext p).length + plen l := by simp [plen]
    have e2 : total (p :: l) = psize p + total l := by simp [total]
    omega
theorem more_len (l : List Pm) : (more l).length = l.length + plen l := by
  induction l with
  | nil => simp [more, plen]
  | cons p l ih =>
    have e1 : plen (p :: l) = (ptext p).length + plen l := by simp [plen]
    have e2 : (more (p :: l)).length = 1 + (ptext p).length + (more l).length := by simp [more]; omega
    rw [e1, e2, ih, List.length_cons]
    omega
theorem tail_len (l : List Pm) (h : l.length ≠ 0) : (tailT l).length = 1 + l.length + plen l := by
  cases l with
  | nil => simp at h
  | cons p l =>
    have e1 : plen (p :: l) = (ptext p).length + plen l := by simp [plen]
    simp only [tailT, List.isEmpty_cons, Bool.false_eq_true, if_false, opened, List.cons_append, List.length_cons, List.length_append, more_len, e1, List.length_nil]
    omega
theorem ptext_len (p : Pm) : (ptext p).length = (if p.neg then 1 else 0) + p.name.size + (if p.hg then 1 + p.glob.size else 0) := by
  unfold ptext
  rw [Lib.size_eq, Lib.size_eq]
  cases p.neg <;> cases p.hg <;> simp <;> omega

theorem ret_int {k : IntKind} {a b : Int} (h : a = b) : Ending.returned (.int k a) = .returned (.int k b) := by rw [h]

set_option maxHeartbeats 2000000 in
theorem taillen_some (ps : List Pm) (b off cap : Nat) (w : World) (hps : PsAt w b off ps) (hn : ps.length ≤ 1048576) (hsz : total ps ≤ 4194304) (h0 : ps.length ≠ 0) :
    Calls Try.prog 11 #[.slice (some ⟨b, off, none⟩) ps.length cap] w fun e w' => e = .returned (.int .i64 ((tailT ps).length : Nat)) ∧ w' = w := by
  have HP := hid hps
  have h01 : (((ps.length : Nat) : Int) == 0) = false := by simpa using h0
  have H0 := hid h0
  clear hps h0
  go_enter Try.func11, Try.ntmps11
  go_wp2
  go_loop [3, 4] (fun n i => ∃ k : Nat, k ≤ ps.length ∧ i = .int .i64 k ∧ n = .int .i64 (1 + (ps.length : Int) + (plen (ps.take k) : Nat))) (fun _ i => ps.length - (intOf i).toNat)
  case atStart => exact ⟨0, Nat.zero_le _, rfl, by simp [plen]; omega⟩
  case round =>
    obtain ⟨k, hk, rfl, rfl⟩ := hrel
    have hpl : plen (ps.take k) ≤ 4194304 := Nat.le_trans (plen_le _) (Nat.le_trans (total_take ps k) hsz)
    by_cases hlt : k < ps.length
    · obtain ⟨c0, c1, c2, c3⟩ := HP.out k hlt
      have hsn : plen (ps.take (k + 1)) = plen (ps.take k) + (ptext ps[k]).length := by rw [List.take_succ_eq_append_getElem hlt, plen_snoc]
      have hpz : psize ps[k] ≤ total ps := by
        have h1 : total (ps.take (k + 1)) = total (ps.take k) + psize ps[k] := by rw [List.take_succ_eq_append_getElem hlt, total_append, total_one]
        have h2 := total_take ps (k + 1)
        omega
      rw [ptext_len] at hsn
      obtain ⟨p, hp⟩ : ∃ p, ps[k] = p := ⟨_, rfl⟩
      rw [hp] at c0 c1 c2 c3 hsn hpz
      clear hp
      have HSN := hid hsn
      clear hsn
      have hnm : p.name.size ≤ 4194304 := by unfold psize at hpz; omega
      have hgm : p.glob.size ≤ 4194304 := by unfold psize at hpz; omega
      clear hpz
      obtain ⟨neg, name, hg, glob⟩ := p
      simp only at c0 c1 c2 c3 hnm hgm
      cases neg <;> cases hg
      all_goals
        go_wp2
        go_round
        case rel =>
          have hs := HSN.out
          simp at hs
          exact ⟨k + 1, by omega, by go_num, by rw [hs]; congr 1; omega⟩
        case measure => simp [intOf]; omega
    · have hke : k = ps.length := by omega
      have ht : plen (ps.take k) = plen ps := by rw [hke, List.take_length]
      have HT := hid ht
      clear ht hke
      go_wp2
      go_ret
      exact ⟨ret_int (by rw [HT.out, tail_len ps H0.out]; omega), rfl⟩

theorem taillen_any (ps : List Pm) (v : Value) (w : World) (hps : ParamsAt w v ps) (hn : ps.length ≤ 1048576) (hsz : total ps ≤ 4194304) (h0 : ps.length ≠ 0) :
    Calls Try.prog 11 #[v] w fun e w' => e = .returned (.int .i64 ((tailT ps).length : Nat)) ∧ w' = w := by
  rcases hps with ⟨ao, cp, rfl, rfl⟩ | ⟨b, off, cap, rfl, h1, h2⟩
  · exact absurd rfl h0
  · exact taillen_some ps b off cap w h2 hn hsz h0
end Go.Proofs.Qxb6630326a.Own
