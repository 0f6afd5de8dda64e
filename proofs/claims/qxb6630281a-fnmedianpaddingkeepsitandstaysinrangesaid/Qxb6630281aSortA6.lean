/- The library's sort at float64 over this program: the kit's walk at int (Derived/Sort/WalkA6), turned by program to this dump's functions and elements. -/
import Derived.Test.Qxb6630281aSortA
import Derived.Sort.WalkA6
namespace Go.Proofs.Qxb6630281a.Own
open Go.RowKit Go.Sort
attribute [local go_sem] run_store_flt

section
variable {α : Type} [Inhabited α] (lt : α → α → Bool)
theorem scanSorted_go (d : Array α) (b i : Nat) (h : i < b) (hl : lt d[i]! d[i - 1]! = false) : scanSorted lt d b i = scanSorted lt d b (i + 1) := by
  rw [scanSorted]; simp [h, hl]
theorem scanSorted_stop (d : Array α) (b i : Nat) (h : ¬ i < b ∨ lt d[i]! d[i - 1]! = true) : scanSorted lt d b i = i := by
  rw [scanSorted]
  rcases h with h | h
  · simp [h]
  · simp [h]
theorem shiftDown_go (j : Nat) (d : Array α) (hj : 1 ≤ j) (hl : lt d[j]! d[j - 1]! = true) : shiftDown lt j d = shiftDown lt (j - 1) (swp d j (j - 1)) := by
  obtain ⟨k, rfl⟩ : ∃ k, j = k + 1 := ⟨j - 1, by omega⟩
  rw [shiftDown]
  simp only [Nat.add_sub_cancel] at hl ⊢
  simp [hl]
theorem shiftDown_stop (j : Nat) (d : Array α) (h : j = 0 ∨ lt d[j]! d[j - 1]! = false) : shiftDown lt j d = d := by
  cases j with
  | zero => rw [shiftDown]
  | succ k =>
    rw [shiftDown]
    simp only [Nat.add_sub_cancel] at h
    rcases h with h | h
    · omega
    · simp [h]
theorem shiftUp_go (b j : Nat) (d : Array α) (hj : j < b) (hl : lt d[j]! d[j - 1]! = true) : shiftUp lt b j d = shiftUp lt b (j + 1) (swp d j (j - 1)) := by
  rw [shiftUp]; simp [hj, hl]
theorem shiftUp_stop (b j : Nat) (d : Array α) (h : ¬ j < b ∨ lt d[j]! d[j - 1]! = false) : shiftUp lt b j d = d := by
  rw [shiftUp]
  rcases h with h | h
  · simp [h]
  · by_cases hj : j < b <;> simp [hj, h]
end

section
variable {α : Type} [Inhabited α] (lt : α → α → Bool)
theorem pi_true (a b s i : Nat) (d : Array α) (hs : s < 5) (hK : scanSorted lt d b i = b) : partialIns lt a b (5 - s) i d = (d, true) := by
  rw [show 5 - s = (4 - s) + 1 by omega, partialIns_succ, if_pos hK]
theorem pi_short (a b s i : Nat) (d : Array α) (hs : s < 5) (hK : scanSorted lt d b i ≠ b) (h50 : b - a < 50) : partialIns lt a b (5 - s) i d = (d, false) := by
  rw [show 5 - s = (4 - s) + 1 by omega, partialIns_succ, if_neg hK, if_pos h50]
theorem pi_go (a b s i k : Nat) (d : Array α) (hs : s < 5) (hK : scanSorted lt d b i = k) (hkb : k ≠ b) (h50 : ¬ b - a < 50) :
    partialIns lt a b (5 - s) i d = partialIns lt a b (5 - (s + 1)) k (fixUp lt b k (fixDown lt a k (swp d k (k - 1)))) := by
  rw [show 5 - s = (4 - s) + 1 by omega, partialIns_succ, hK, if_neg hkb, if_neg h50, show 5 - (s + 1) = 4 - s by omega]
theorem pi_end (a b i : Nat) (d : Array α) : partialIns lt a b (5 - 5) i d = (d, false) := rfl
end

set_option maxHeartbeats 1600000 in
set_option maxRecDepth 100000 in

theorem partialInsertionSort_flt (blk off cap a b : Nat) (d : Array Nat) (w : World) (hH : Holds (Value.float .f64) w blk off d) (hab : a < b) (hb : b ≤ d.size) (hsz : d.size < 4611686018427387904) :
    Calls Try.prog 24 #[.slice (some ⟨blk, off, none⟩) d.size cap, .int .i64 a, .int .i64 b] w fun e w' =>
      e = .returned (.bool (Sort.partialInsertionSort ltF d a b).2) ∧ ∃ n, w' = putRow (Value.float .f64) (Sort.ahead w n) blk off (Sort.partialInsertionSort ltF d a b).1 := by
  have HH : Hid (Holds (Value.float .f64) w blk off d) := hH
  have HST : Hid (w = putRow (Value.float .f64) (Sort.ahead w 0) blk off d) := (putRow_self _ _ _ _ _ hH).symm
  clear hH
  go_enter Try.func24, Try.ntmps24
  go_wp2
  go_loopw [7, 8] (fun vi vs wr => ∃ (i s n : Nat) (dk : Array Nat), vi = .int .i64 i ∧ vs = .int .i64 s ∧ s ≤ 5 ∧ a < i ∧ i ≤ b ∧ dk.size = d.size ∧ wr = putRow (Value.float .f64) (Sort.ahead w n) blk off dk ∧
      partialIns ltF a b (5 - s) i dk = partialIns ltF a b 5 (a + 1) d) (fun _ vs _ => 5 - (intOf vs).toNat)
  case atStart => exact ⟨a + 1, 0, 0, d, by go_num, rfl, by omega, by omega, by omega, rfl, HST.out, rfl⟩
  case round =>
    obtain ⟨i, s, n, dk, rfl, rfl, hs5, hai, hib, hsk, hwr, hO⟩ := hrel
    have HO : Hid (partialIns ltF a b (5 - s) i dk = partialIns ltF a b 5 (a + 1) d) := hO
    clear hO
    go_wp2
    ·
      have hs : s < 5 := by omega
      go_loopw [7] (fun vi wr2 => ∃ (k m : Nat), vi = .int .i64 k ∧ i ≤ k ∧ k ≤ b ∧ wr2 = putRow (Value.float .f64) (Sort.ahead w m) blk off dk ∧ scanSorted ltF dk b k = scanSorted ltF dk b i) (fun vi _ => b - (intOf vi).toNat)
      case atStart => exact ⟨i, n, rfl, Nat.le_refl _, hib, rfl, rfl⟩
      case round =>
        obtain ⟨k, m, rfl, hik, hkb, hw2, hS⟩ := hrel
        obtain ⟨G, hG⟩ : ∃ G : Nat → Nat, ∀ t, G t = dk[t]! := ⟨fun t => dk[t]!, fun _ => rfl⟩
        have hcw : ∀ t, t < d.size → wr.cell? ⟨blk, off + t, none⟩ = some (.float .f64 (G t)) := fun t ht => by
          rw [hw2, hG]; exact cell?_putRow _ _ _ _ d dk (holds_ahead _ _ _ _ _ _ HH.out) hsk t (by omega)
        have hfw : ∀ t, t < d.size → wr.frozen? ⟨blk, off + t, none⟩ = false := fun t ht => by
          rw [hw2, frozen?_putRow]; exact ((holds_ahead _ _ m _ _ _ HH.out) t ht).2
        have HW : Hid (wr = putRow (Value.float .f64) (Sort.ahead w m) blk off dk) := hw2
        have HG : Hid (∀ t, G t = dk[t]!) := hG
        have HS : Hid (scanSorted ltF dk b k = scanSorted ltF dk b i) := hS
        clear hw2 hG hS
        go_wp2
        by_cases hkb' : k < b
        · go_quiet (first | (go_at_call 25; refine Calls.quiet_of_same (cmp_Less_flt _ _ _)))
          go_wp2
          all_goals first
            | (at_end
               have hl : ltF (G k) (G (k - 1)) = false := by
                 have h : (!ltF (G k) (G (k - 1))) = true := by assumption
                 simpa using h
               go_roundw
               case rel => exact ⟨k + 1, m + nq, by go_num, by omega, by omega, by rw [HW.out]; exact putRow_drewN _ _ _ _ _ _ _, by rw [← HS.out, scanSorted_go ltF dk b k hkb' (by rw [← HG.out, ← HG.out]; exact hl)]⟩
               case measure => simp [intOf]; omega)
            | (have hl : ltF (G k) (G (k - 1)) = true := by
                 have h : (!ltF (G k) (G (k - 1))) = false := by assumption
                 simpa using h
               have HK : Hid (scanSorted ltF dk b i = k) := by
                 show scanSorted ltF dk b i = k
                 rw [← HS.out, scanSorted_stop ltF dk b k (Or.inr (by rw [← HG.out, ← HG.out]; exact hl))]
               first
                 | (at_ret
                    have hv : Sort.partialInsertionSort ltF d a b = (dk, false) := by
                      unfold Sort.partialInsertionSort
                      rw [← HO.out, pi_short ltF a b s i dk hs (by rw [HK.out]; omega) (by omega)]
                    rw [hv]
                    go_ret
                    exact ⟨rfl, m + nq, by rw [HW.out]; exact putRow_drewN _ _ _ _ _ _ _⟩)
                 | (at_region 11
                    have h50 : ¬ b - a < 50 := by omega
                    go_region
                    have hsw : ((wr.drewN (nq + 1)).setCell ⟨blk, off + k, none⟩ (.float .f64 (G (k - 1)))).setCell ⟨blk, off + (k - 1), none⟩ (.float .f64 (G k)) = putRow (Value.float .f64) (Sort.ahead w (m + (nq + 1))) blk off (swp dk k (k - 1)) := by
                      rw [HW.out, HG.out, HG.out]
                      exact swap_worldA _ w m (nq + 1) blk off dk k (k - 1) (by omega) (by omega)
                    have hs1 : (swp dk k (k - 1)).size = d.size := by rw [size_swp]; exact hsk
                    go_wp2
                    all_goals first
                      | (at_loop

                         have hka : k - a ≥ 2 := by omega
                         go_loopw [9] (fun vj wr2 => ∃ (j m2 : Nat) (dj : Array Nat), vj = .int .i64 j ∧ j ≤ k - 1 ∧ dj.size = d.size ∧ wr2 = putRow (Value.float .f64) (Sort.ahead w m2) blk off dj ∧
                             shiftDown ltF j dj = shiftDown ltF (k - 1) (swp dk k (k - 1))) (fun vj _ => (intOf vj).toNat)
                         case atStart => exact ⟨k - 1, _, (swp dk k (k - 1)), by congr 1; omega, Nat.le_refl _, hs1, rfl, rfl⟩
                         case round =>
                           obtain ⟨j, m2, dj, rfl, hjk, hsj, hw2, hDn⟩ := hrel
                           obtain ⟨G, hG⟩ : ∃ G : Nat → Nat, ∀ t, G t = dj[t]! := ⟨fun t => dj[t]!, fun _ => rfl⟩
                           have hcw : ∀ t, t < d.size → wr.cell? ⟨blk, off + t, none⟩ = some (.float .f64 (G t)) := fun t ht => by
                             rw [hw2, hG]; exact cell?_putRow _ _ _ _ d dj (holds_ahead _ _ _ _ _ _ HH.out) hsj t (by omega)
                           have hfw : ∀ t, t < d.size → wr.frozen? ⟨blk, off + t, none⟩ = false := fun t ht => by
                             rw [hw2, frozen?_putRow]; exact ((holds_ahead _ _ m2 _ _ _ HH.out) t ht).2
                           have HW : Hid (wr = putRow (Value.float .f64) (Sort.ahead w m2) blk off dj) := hw2
                           have HG : Hid (∀ t, G t = dj[t]!) := hG
                           have HDn : Hid (shiftDown ltF j dj = shiftDown ltF (k - 1) (swp dk k (k - 1))) := hDn
                           clear hw2 hG hDn hsw
                           go_wp2
                           all_goals first
                             | (at_region 16
                                go_quiet (first | (go_at_call 25; refine Calls.quiet_of_same (cmp_Less_flt _ _ _)))
                                go_wp2
                                all_goals first
                                  | (at_region 17
                                     have hl : ltF (G j) (G (j - 1)) = true := by
                                       have h : (!ltF (G j) (G (j - 1))) = false := by assumption
                                       simpa using h
                                     go_region
                                     all_goals go_wp2
                                     go_roundw
                                     case rel =>
                                       refine ⟨j - 1, m2 + (nq + 1), swp dj j (j - 1), by congr 1; omega, by omega, by rw [size_swp]; exact hsj, ?_, ?_⟩
                                       · rw [HW.out, HG.out, HG.out]
                                         exact swap_worldA _ w m2 (nq + 1) blk off dj j (j - 1) (by omega) (by omega)
                                       · rw [← HDn.out, shiftDown_go ltF j dj (by omega) (by rw [← HG.out, ← HG.out]; exact hl)]
                                     case measure => simp [intOf]; omega)
                                  | (
                                     have hl : ltF (G j) (G (j - 1)) = false := by
                                       have h : (!ltF (G j) (G (j - 1))) = true := by assumption
                                       simpa using h
                                     have HD : Hid (fixDown ltF a k (swp dk k (k - 1)) = dj) := by
                                       show fixDown ltF a k (swp dk k (k - 1)) = dj
                                       unfold fixDown; rw [if_pos hka, ← HDn.out, shiftDown_stop ltF j dj (Or.inr (by rw [← HG.out, ← HG.out]; exact hl))]
                                     first
                                       | (at_end
                                          go_roundw
                                          case rel =>
                                            refine ⟨k, s + 1, _, dj, rfl, by go_num, by omega, by omega, by omega, hsj, (by first | rfl | exact HW.out | (rw [HW.out]; exact putRow_drewN _ _ _ _ _ _ _)), ?_⟩
                                            rw [← HO.out, pi_go ltF a b s i k dk hs HK.out (by omega) (by omega), HD.out, show fixUp ltF b k dj = dj from by unfold fixUp; rw [if_neg (by omega)]]
                                          case measure => simp [intOf]; omega)
                                       | (at_loop
                                          go_loopw [10] (fun vj wr2 => ∃ (j m3 : Nat) (du : Array Nat), vj = .int .i64 j ∧ k + 1 ≤ j ∧ j ≤ b ∧ du.size = d.size ∧ wr2 = putRow (Value.float .f64) (Sort.ahead w m3) blk off du ∧
                                              shiftUp ltF b j du = shiftUp ltF b (k + 1) dj) (fun vj _ => b - (intOf vj).toNat)
                                          case atStart => exact ⟨k + 1, _, dj, by go_num, Nat.le_refl _, by omega, hsj, (by first | rfl | exact HW.out | (rw [HW.out]; exact putRow_drewN _ _ _ _ _ _ _)), rfl⟩
                                          case round =>
                                            obtain ⟨j, m3, du, rfl, hkj, hjb, hsu, hw3, hU⟩ := hrel
                                            obtain ⟨G, hG⟩ : ∃ G : Nat → Nat, ∀ t, G t = du[t]! := ⟨fun t => du[t]!, fun _ => rfl⟩
                                            have hcw : ∀ t, t < d.size → wr.cell? ⟨blk, off + t, none⟩ = some (.float .f64 (G t)) := fun t ht => by
                                              rw [hw3, hG]; exact cell?_putRow _ _ _ _ d du (holds_ahead _ _ _ _ _ _ HH.out) hsu t (by omega)
                                            have hfw : ∀ t, t < d.size → wr.frozen? ⟨blk, off + t, none⟩ = false := fun t ht => by
                                              rw [hw3, frozen?_putRow]; exact ((holds_ahead _ _ m3 _ _ _ HH.out) t ht).2
                                            have HW : Hid (wr = putRow (Value.float .f64) (Sort.ahead w m3) blk off du) := hw3
                                            have HG : Hid (∀ t, G t = du[t]!) := hG
                                            have HU : Hid (shiftUp ltF b j du = shiftUp ltF b (k + 1) dj) := hU
                                            clear hw3 hG hU
                                            go_wp2
                                            all_goals first
                                              | (at_region 22
                                                 go_quiet (first | (go_at_call 25; refine Calls.quiet_of_same (cmp_Less_flt _ _ _)))
                                                 go_wp2
                                                 all_goals first
                                                   | (at_region 23
                                                      have hl : ltF (G j) (G (j - 1)) = true := by
                                                        have h : (!ltF (G j) (G (j - 1))) = false := by assumption
                                                        simpa using h
                                                      go_region
                                                      all_goals go_wp2
                                                      go_roundw
                                                      case rel =>
                                                        refine ⟨j + 1, m3 + (nq + 1), swp du j (j - 1), by go_num, by omega, by omega, by rw [size_swp]; exact hsu, ?_, ?_⟩
                                                        · rw [HW.out, HG.out, HG.out]
                                                          exact swap_worldA _ w m3 (nq + 1) blk off du j (j - 1) (by omega) (by omega)
                                                        · rw [← HU.out, shiftUp_go ltF b j du (by omega) (by rw [← HG.out, ← HG.out]; exact hl)]
                                                      case measure => simp [intOf]; omega)
                                                   | (at_end
                                                      have hl : ltF (G j) (G (j - 1)) = false := by
                                                        have h : (!ltF (G j) (G (j - 1))) = true := by assumption
                                                        simpa using h
                                                      go_roundw
                                                      case rel =>
                                                        refine ⟨k, s + 1, _, du, rfl, by go_num, by omega, by omega, by omega, hsu, (by first | rfl | exact HW.out | (rw [HW.out]; exact putRow_drewN _ _ _ _ _ _ _)), ?_⟩
                                                        rw [← HO.out, pi_go ltF a b s i k dk hs HK.out (by omega) (by omega), HD.out, show fixUp ltF b k dj = du from by unfold fixUp; rw [if_pos (by omega), ← HU.out, shiftUp_stop ltF b j du (Or.inr (by rw [← HG.out, ← HG.out]; exact hl))]]
                                                      case measure => simp [intOf]; omega))
                                              | (at_end
                                                 go_roundw
                                                 case rel =>
                                                   refine ⟨k, s + 1, _, du, rfl, by go_num, by omega, by omega, by omega, hsu, (by first | rfl | exact HW.out | (rw [HW.out]; exact putRow_drewN _ _ _ _ _ _ _)), ?_⟩
                                                   rw [← HO.out, pi_go ltF a b s i k dk hs HK.out (by omega) (by omega), HD.out, show fixUp ltF b k dj = du from by unfold fixUp; rw [if_pos (by omega), ← HU.out, shiftUp_stop ltF b j du (Or.inl (by omega))]]
                                                 case measure => simp [intOf]; omega))))
                             | (
                                have HD : Hid (fixDown ltF a k (swp dk k (k - 1)) = dj) := by
                                  show fixDown ltF a k (swp dk k (k - 1)) = dj
                                  unfold fixDown; rw [if_pos hka, ← HDn.out, shiftDown_stop ltF j dj (Or.inl (by omega))]
                                first
                                  | (at_end
                                     go_roundw
                                     case rel =>
                                       refine ⟨k, s + 1, _, dj, rfl, by go_num, by omega, by omega, by omega, hsj, (by first | rfl | exact HW.out | (rw [HW.out]; exact putRow_drewN _ _ _ _ _ _ _)), ?_⟩
                                       rw [← HO.out, pi_go ltF a b s i k dk hs HK.out (by omega) (by omega), HD.out, show fixUp ltF b k dj = dj from by unfold fixUp; rw [if_neg (by omega)]]
                                     case measure => simp [intOf]; omega)
                                  | (at_loop
                                     go_loopw [10] (fun vj wr2 => ∃ (j m3 : Nat) (du : Array Nat), vj = .int .i64 j ∧ k + 1 ≤ j ∧ j ≤ b ∧ du.size = d.size ∧ wr2 = putRow (Value.float .f64) (Sort.ahead w m3) blk off du ∧
                                         shiftUp ltF b j du = shiftUp ltF b (k + 1) dj) (fun vj _ => b - (intOf vj).toNat)
                                     case atStart => exact ⟨k + 1, _, dj, by go_num, Nat.le_refl _, by omega, hsj, (by first | rfl | exact HW.out | (rw [HW.out]; exact putRow_drewN _ _ _ _ _ _ _)), rfl⟩
                                     case round =>
                                       obtain ⟨j, m3, du, rfl, hkj, hjb, hsu, hw3, hU⟩ := hrel
                                       obtain ⟨G, hG⟩ : ∃ G : Nat → Nat, ∀ t, G t = du[t]! := ⟨fun t => du[t]!, fun _ => rfl⟩
                                       have hcw : ∀ t, t < d.size → wr.cell? ⟨blk, off + t, none⟩ = some (.float .f64 (G t)) := fun t ht => by
                                         rw [hw3, hG]; exact cell?_putRow _ _ _ _ d du (holds_ahead _ _ _ _ _ _ HH.out) hsu t (by omega)
                                       have hfw : ∀ t, t < d.size → wr.frozen? ⟨blk, off + t, none⟩ = false := fun t ht => by
                                         rw [hw3, frozen?_putRow]; exact ((holds_ahead _ _ m3 _ _ _ HH.out) t ht).2
                                       have HW : Hid (wr = putRow (Value.float .f64) (Sort.ahead w m3) blk off du) := hw3
                                       have HG : Hid (∀ t, G t = du[t]!) := hG
                                       have HU : Hid (shiftUp ltF b j du = shiftUp ltF b (k + 1) dj) := hU
                                       clear hw3 hG hU
                                       go_wp2
                                       all_goals first
                                         | (at_region 22
                                            go_quiet (first | (go_at_call 25; refine Calls.quiet_of_same (cmp_Less_flt _ _ _)))
                                            go_wp2
                                            all_goals first
                                              | (at_region 23
                                                 have hl : ltF (G j) (G (j - 1)) = true := by
                                                   have h : (!ltF (G j) (G (j - 1))) = false := by assumption
                                                   simpa using h
                                                 go_region
                                                 all_goals go_wp2
                                                 go_roundw
                                                 case rel =>
                                                   refine ⟨j + 1, m3 + (nq + 1), swp du j (j - 1), by go_num, by omega, by omega, by rw [size_swp]; exact hsu, ?_, ?_⟩
                                                   · rw [HW.out, HG.out, HG.out]
                                                     exact swap_worldA _ w m3 (nq + 1) blk off du j (j - 1) (by omega) (by omega)
                                                   · rw [← HU.out, shiftUp_go ltF b j du (by omega) (by rw [← HG.out, ← HG.out]; exact hl)]
                                                 case measure => simp [intOf]; omega)
                                              | (at_end
                                                 have hl : ltF (G j) (G (j - 1)) = false := by
                                                   have h : (!ltF (G j) (G (j - 1))) = true := by assumption
                                                   simpa using h
                                                 go_roundw
                                                 case rel =>
                                                   refine ⟨k, s + 1, _, du, rfl, by go_num, by omega, by omega, by omega, hsu, (by first | rfl | exact HW.out | (rw [HW.out]; exact putRow_drewN _ _ _ _ _ _ _)), ?_⟩
                                                   rw [← HO.out, pi_go ltF a b s i k dk hs HK.out (by omega) (by omega), HD.out, show fixUp ltF b k dj = du from by unfold fixUp; rw [if_pos (by omega), ← HU.out, shiftUp_stop ltF b j du (Or.inr (by rw [← HG.out, ← HG.out]; exact hl))]]
                                                 case measure => simp [intOf]; omega))
                                         | (at_end
                                            go_roundw
                                            case rel =>
                                              refine ⟨k, s + 1, _, du, rfl, by go_num, by omega, by omega, by omega, hsu, (by first | rfl | exact HW.out | (rw [HW.out]; exact putRow_drewN _ _ _ _ _ _ _)), ?_⟩
                                              rw [← HO.out, pi_go ltF a b s i k dk hs HK.out (by omega) (by omega), HD.out, show fixUp ltF b k dj = du from by unfold fixUp; rw [if_pos (by omega), ← HU.out, shiftUp_stop ltF b j du (Or.inl (by omega))]]
                                            case measure => simp [intOf]; omega))))
                      | (
                         have HD : Hid (fixDown ltF a k (swp dk k (k - 1)) = (swp dk k (k - 1))) := by
                           show fixDown ltF a k (swp dk k (k - 1)) = (swp dk k (k - 1))
                           unfold fixDown; rw [if_neg (by omega)]
                         first
                           | (at_end
                              go_roundw
                              case rel =>
                                refine ⟨k, s + 1, _, (swp dk k (k - 1)), rfl, by go_num, by omega, by omega, by omega, hs1, (by first | rfl | exact HW.out | (rw [HW.out]; exact putRow_drewN _ _ _ _ _ _ _)), ?_⟩
                                rw [← HO.out, pi_go ltF a b s i k dk hs HK.out (by omega) (by omega), HD.out, show fixUp ltF b k (swp dk k (k - 1)) = (swp dk k (k - 1)) from by unfold fixUp; rw [if_neg (by omega)]]
                              case measure => simp [intOf]; omega)
                           | (at_loop
                              go_loopw [10] (fun vj wr2 => ∃ (j m3 : Nat) (du : Array Nat), vj = .int .i64 j ∧ k + 1 ≤ j ∧ j ≤ b ∧ du.size = d.size ∧ wr2 = putRow (Value.float .f64) (Sort.ahead w m3) blk off du ∧
                                  shiftUp ltF b j du = shiftUp ltF b (k + 1) (swp dk k (k - 1))) (fun vj _ => b - (intOf vj).toNat)
                              case atStart => exact ⟨k + 1, _, (swp dk k (k - 1)), by go_num, Nat.le_refl _, by omega, hs1, (by first | rfl | exact HW.out | (rw [HW.out]; exact putRow_drewN _ _ _ _ _ _ _)), rfl⟩
                              case round =>
                                obtain ⟨j, m3, du, rfl, hkj, hjb, hsu, hw3, hU⟩ := hrel
                                obtain ⟨G, hG⟩ : ∃ G : Nat → Nat, ∀ t, G t = du[t]! := ⟨fun t => du[t]!, fun _ => rfl⟩
                                have hcw : ∀ t, t < d.size → wr.cell? ⟨blk, off + t, none⟩ = some (.float .f64 (G t)) := fun t ht => by
                                  rw [hw3, hG]; exact cell?_putRow _ _ _ _ d du (holds_ahead _ _ _ _ _ _ HH.out) hsu t (by omega)
                                have hfw : ∀ t, t < d.size → wr.frozen? ⟨blk, off + t, none⟩ = false := fun t ht => by
                                  rw [hw3, frozen?_putRow]; exact ((holds_ahead _ _ m3 _ _ _ HH.out) t ht).2
                                have HW : Hid (wr = putRow (Value.float .f64) (Sort.ahead w m3) blk off du) := hw3
                                have HG : Hid (∀ t, G t = du[t]!) := hG
                                have HU : Hid (shiftUp ltF b j du = shiftUp ltF b (k + 1) (swp dk k (k - 1))) := hU
                                clear hw3 hG hU
                                go_wp2
                                all_goals first
                                  | (at_region 22
                                     go_quiet (first | (go_at_call 25; refine Calls.quiet_of_same (cmp_Less_flt _ _ _)))
                                     go_wp2
                                     all_goals first
                                       | (at_region 23
                                          have hl : ltF (G j) (G (j - 1)) = true := by
                                            have h : (!ltF (G j) (G (j - 1))) = false := by assumption
                                            simpa using h
                                          go_region
                                          all_goals go_wp2
                                          go_roundw
                                          case rel =>
                                            refine ⟨j + 1, m3 + (nq + 1), swp du j (j - 1), by go_num, by omega, by omega, by rw [size_swp]; exact hsu, ?_, ?_⟩
                                            · rw [HW.out, HG.out, HG.out]
                                              exact swap_worldA _ w m3 (nq + 1) blk off du j (j - 1) (by omega) (by omega)
                                            · rw [← HU.out, shiftUp_go ltF b j du (by omega) (by rw [← HG.out, ← HG.out]; exact hl)]
                                          case measure => simp [intOf]; omega)
                                       | (at_end
                                          have hl : ltF (G j) (G (j - 1)) = false := by
                                            have h : (!ltF (G j) (G (j - 1))) = true := by assumption
                                            simpa using h
                                          go_roundw
                                          case rel =>
                                            refine ⟨k, s + 1, _, du, rfl, by go_num, by omega, by omega, by omega, hsu, (by first | rfl | exact HW.out | (rw [HW.out]; exact putRow_drewN _ _ _ _ _ _ _)), ?_⟩
                                            rw [← HO.out, pi_go ltF a b s i k dk hs HK.out (by omega) (by omega), HD.out, show fixUp ltF b k (swp dk k (k - 1)) = du from by unfold fixUp; rw [if_pos (by omega), ← HU.out, shiftUp_stop ltF b j du (Or.inr (by rw [← HG.out, ← HG.out]; exact hl))]]
                                          case measure => simp [intOf]; omega))
                                  | (at_end
                                     go_roundw
                                     case rel =>
                                       refine ⟨k, s + 1, _, du, rfl, by go_num, by omega, by omega, by omega, hsu, (by first | rfl | exact HW.out | (rw [HW.out]; exact putRow_drewN _ _ _ _ _ _ _)), ?_⟩
                                       rw [← HO.out, pi_go ltF a b s i k dk hs HK.out (by omega) (by omega), HD.out, show fixUp ltF b k (swp dk k (k - 1)) = du from by unfold fixUp; rw [if_pos (by omega), ← HU.out, shiftUp_stop ltF b j du (Or.inl (by omega))]]
                                     case measure => simp [intOf]; omega)))))
        ·
          go_quiet (first | (go_at_call 25; refine Calls.quiet_of_same (cmp_Less_flt _ _ _)))
          go_wp2
          obtain rfl : k = b := by omega
          have hv : Sort.partialInsertionSort ltF d a k = (dk, true) := by
            unfold Sort.partialInsertionSort
            rw [← HO.out, pi_true ltF a k s i dk hs (by rw [← HS.out, scanSorted_stop ltF dk k k (Or.inl (by omega))])]
          rw [hv]
          go_ret
          exact ⟨rfl, m + nq, by rw [HW.out]; exact putRow_drewN _ _ _ _ _ _ _⟩
    ·
      obtain rfl : s = 5 := by omega
      have hv : Sort.partialInsertionSort ltF d a b = (dk, false) := by
        unfold Sort.partialInsertionSort
        rw [← HO.out, pi_end]
      rw [hv]
      go_ret
      exact ⟨rfl, n, rfl⟩
end Go.Proofs.Qxb6630281a.Own
