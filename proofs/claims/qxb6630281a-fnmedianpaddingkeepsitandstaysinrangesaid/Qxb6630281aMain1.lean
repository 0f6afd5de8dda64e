/-
  FnMedianIsMiddleOrderStatistic: the walk.
-/
import Derived.Test.Qxb6630281aCopy
namespace Go.Proofs.Qxb6630281a.Own
open Go.RowKit

def listOf (G : Nat → Nat) (n : Nat) : List Nat := (List.range n).map G
theorem listOf_length (G : Nat → Nat) (n : Nat) : (listOf G n).length = n := by simp [listOf]
theorem listOf_get (G : Nat → Nat) (n j : Nat) (h : j < n) : (listOf G n)[j]?.getD 0 = G j := by simp [listOf, h]
/-- what b1OrderStat answers -/
def Stat (G : Nat → Nat) (n k r : Nat) : Prop := (∃ i, i < n ∧ r = G i ∧ hit G n k i) ∨ ∀ i, i < n → ¬ hit G n k i
/-- the plain law -/
def Law1 : Prop := ∀ (G : Nat → Nat) (n got want : Nat), 0 < n → Med (listOf G n) got →
  (n % 2 = 1 → Stat G n (n / 2) want) → (n % 2 = 0 → ∃ lo hi, Stat G n (n / 2 - 1) lo ∧ Stat G n (n / 2) hi ∧ Mean lo hi want) → sameB got want = true

theorem median_row (b off n cap : Nat) (G : Nat → Nat) (hn : 0 < n) (hlen : n ≤ 1048578) (w : World) (hb : b < w.heap.size) (hc : FltAt w b off n G) :
    Calls Try.prog 6 #[.slice (some ⟨b, off, none⟩) n cap] w fun e w' => (∃ r, e = .returned (.float .f64 r) ∧ Med (listOf G n) r) ∧ Below w.heap.size w w' := by
  have hl := listOf_length G n
  have h := median_in b off cap (listOf G n) (by intro e; rw [e] at hl; simp at hl; omega) (by omega) w hb (fun j hj => by rw [listOf_get G n j (by omega)]; exact hc j (by omega))
  rw [hl] at h
  exact h

attribute [local go_sem] run_arith_add run_arith_quo

set_option maxRecDepth 100000 in
set_option maxHeartbeats 4000000 in
theorem law1_some (L : Law1) (b off n cap : Nat) (G : Nat → Nat) (w : World) (h1 : 1 ≤ n) (h2 : n ≤ 4096) (hb : b < w.heap.size) (hG : FltAt w b off n G) :
    Calls Try.prog 3 #[.slice (some ⟨b, off, none⟩) n cap] w fun e w' => e = .returned (.bool true) ∧ Below w.heap.size w w' := by
  have hne := fun wx => run_neq_slice_nil_any (P := Try.prog) wx 22 24
  have hmk := make22 n (by omega)
  have HG := hid hG
  have HL := hid L
  clear hG L
  have hcs : ∀ j v, ((List.range n).map fun i => Value.float .f64 (G i))[j]? = some v → w.cell? ⟨b, off + j, none⟩ = some v := by
    intro j v hj
    have hjn : j < n := by
      rcases Nat.lt_or_ge j n with h | h
      · exact h
      · rw [List.getElem?_eq_none (by simpa using h)] at hj; cases hj
    have hv : v = .float .f64 (G j) := by simpa [hjn] using hj.symm
    rw [hv]
    exact HG.out j hjn
  have hgc : (w.alloc (.cells (madeCells #[.float .f64 0] n) 24)).heap[w.heap.size]? = some (.cells (madeCells #[.float .f64 0] n).toList.toArray 24 (0, 0)) := heap_alloc_new w _
  obtain ⟨cs, hcsn⟩ : ∃ cs, cs = (List.range n).map fun i => Value.float .f64 (G i) := ⟨_, rfl⟩
  have hcl : cs.length = n := by rw [hcsn]; simp
  have ho1 : ∀ v ∈ cs, v.oneCell' = true := by
    intro v hv
    rw [hcsn, List.mem_map] at hv
    obtain ⟨i, _, rfl⟩ := hv
    rfl
  rw [← hcsn] at hcs
  have HCS := hid hcsn
  have Hsrc := hid hcs
  have Hcl := hid hcl
  clear hcsn hcs hcl
  have hz5 := zzBytes5_in (some ⟨b, off, none⟩) n cap w (by omega)
  rw [decide_eq_true (by omega)] at hz5
  go_enter Try.func3, Try.ntmps3
  go_wp2_with (first
    | (go_at_call 5; refine hz5.mono ?_; rintro e w' ⟨rfl, hww⟩; subst w')
    | (refine wpList_copy_splice rfl (.tmp 23) (.tmp 24) 22 22 rfl 24 Try.underlying22 size24 _ _ _ _ _ _ rfl rfl w.heap.size 0 (madeCells #[.float .f64 0] n).toList 24 hgc cs ?hn ?hpos ?hfit ho1 w.heap.size w ((Below.refl _ w).alloc (Nat.le_refl _) _) (Nat.le_refl _) ?_))
  case hn => rw [Hcl.out]; simp
  case hpos => exact fun _ => Hsrc.out
  case hfit => rw [Hcl.out]; simp [size_madeCells]
  intro w2 HG2 hB2
  have hF2 : FltAt w2 w.heap.size 0 n G := flt_of_splice w2 w.heap.size n G (by rw [← HCS.out]; exact HG2.out)
  have hs2 : w.heap.size < w2.heap.size := (Array.getElem?_eq_some_iff.1 HG2.out).1
  clear HG2 hgc ho1 Hsrc HCS hz5 hmk
  have cM := median_row w.heap.size 0 n n G h1 (by omega) w2 hs2 hF2
  rcases Nat.mod_two_eq_zero_or_one n with hp | hp
  · have eq1 : ((n / 2 - 1 : Nat) : Int) = (n : Int) / 2 - 1 := by omega
    have eq2 : ((n / 2 : Nat) : Int) = (n : Int) / 2 := by omega
    go_wp2_with (first
      | (go_at_call 6; refine cM.mono ?_; rintro e w3 ⟨⟨got, rfl, hM⟩, hB3⟩; have HM := hid hM; clear hM cM
         have c1 := b1OrderStat_in w.heap.size 0 n n (n / 2 - 1) G h1 (by omega) (by omega) w3 (hF2.below hB3 hs2)
         have c2 := b1OrderStat_in w.heap.size 0 n n (n / 2) G h1 (by omega) (by omega) w3 (hF2.below hB3 hs2)
         rw [eq1] at c1
         rw [eq2] at c2)
      | (go_at_call 7; refine c1.mono ?_; rintro e w4 ⟨⟨lo, rfl, hlo⟩, hww⟩; subst w4; have HLo := hid hlo; clear c1 hlo)
      | (go_at_call 7; refine c2.mono ?_; rintro e w4 ⟨⟨hi, rfl, hhi⟩, hww⟩; subst w4; have HHi := hid hhi; clear c2 hhi)
      | (go_at_call 8; refine (b1Same_in _ _ _).mono ?_; rintro e w5 ⟨rfl, hww⟩; subst w5))
    go_ret
    refine ⟨ret_bool (HL.out G n got _ h1 HM.out (fun h => absurd h (by omega)) (fun _ => ⟨lo, hi, HLo.out, HHi.out, _, arT_spec .add _ _ _, arT_spec .quo _ _ _⟩)), ?_⟩
    exact arW_below _ _ _ (arW_below _ _ _ (hB2.trans (hB3.mono (Nat.le_of_lt hs2))))
  · have eq2 : ((n / 2 : Nat) : Int) = (n : Int) / 2 := by omega
    go_wp2_with (first
      | (go_at_call 6; refine cM.mono ?_; rintro e w3 ⟨⟨got, rfl, hM⟩, hB3⟩; have HM := hid hM; clear hM cM
         have c2 := b1OrderStat_in w.heap.size 0 n n (n / 2) G h1 (by omega) (by omega) w3 (hF2.below hB3 hs2)
         rw [eq2] at c2)
      | (go_at_call 7; refine c2.mono ?_; rintro e w4 ⟨⟨hi, rfl, hhi⟩, hww⟩; subst w4; have HHi := hid hhi; clear c2 hhi)
      | (go_at_call 8; refine (b1Same_in _ _ _).mono ?_; rintro e w5 ⟨rfl, hww⟩; subst w5))
    go_ret
    exact ⟨ret_bool (HL.out G n got _ h1 HM.out (fun _ => HHi.out) (fun h => absurd h (by omega))), hB2.trans (hB3.mono (Nat.le_of_lt hs2))⟩

set_option maxHeartbeats 1000000 in
theorem law1_big (ao : Option Addr) (n cap : Nat) (w : World) (hn : n < 9223372036854775808) (h : 4096 < n ∨ n = 0) :
    Calls Try.prog 3 #[.slice ao n cap] w fun e w' => e = .returned (.bool true) ∧ Below w.heap.size w w' := by
  have hz5 := zzBytes5_in ao n cap w hn
  by_cases hb : n ≤ 1048576
  · rw [decide_eq_true hb] at hz5
    rcases h with h | h
    · go_enter Try.func3, Try.ntmps3
      go_wp2_with (go_at_call 5; refine hz5.mono ?_; rintro e w' ⟨rfl, hww⟩; subst w')
      go_ret
      exact ⟨rfl, Below.refl _ _⟩
    · subst h
      go_enter Try.func3, Try.ntmps3
      go_wp2_with (go_at_call 5; refine hz5.mono ?_; rintro e w' ⟨rfl, hww⟩; subst w')
      go_ret
      exact ⟨rfl, Below.refl _ _⟩
  · rw [decide_eq_false hb] at hz5
    go_enter Try.func3, Try.ntmps3
    go_wp2_with (go_at_call 5; refine hz5.mono ?_; rintro e w' ⟨rfl, hww⟩; subst w')
    go_ret
    exact ⟨rfl, Below.refl _ _⟩
end Go.Proofs.Qxb6630281a.Own
