/-
  FnHasSameOnRepeatedFilter: the plain law; the walk.
-/
import Derived.Test.Qxb6630360aOpen
set_option linter.unusedSimpArgs false
namespace Go.Proofs.Qxb6630360a.Own
open Go.RowKit

theorem probe_div (K : Nat → UInt8) (n i : Nat) : probe K n i / 64 = grp K i / 64 % n := by
  unfold probe
  rw [Nat.mul_comm n 64, Nat.mod_mul_right_div_self]
theorem probe_mod (K : Nat → UInt8) (n i : Nat) : probe K n i % 64 = grp K i % 64 := by
  unfold probe
  exact Nat.mod_mod_of_dvd _ (Nat.dvd_mul_left 64 n)
/-- a filter laid end to end r times answers as the filter -/
theorem law_same (F : Nat → Nat) (K : Nat → UInt8) (n r : Nat) : hasB (fun i => F (i % n)) (probe K (n * r)) = hasB F (probe K n) := by
  unfold hasB
  congr 1
  funext i
  rw [probe_div, probe_mod, probe_div, probe_mod]
  show (F (grp K i / 64 % (n * r) % n)).testBit _ = _
  rw [Nat.mod_mul_right_mod]

/-- the key, its 32 bytes written out -/
def keyLit (K : Nat → UInt8) : Array Value := #[.int .u8 ((K 0).toNat : Nat), .int .u8 ((K 1).toNat : Nat), .int .u8 ((K 2).toNat : Nat), .int .u8 ((K 3).toNat : Nat), .int .u8 ((K 4).toNat : Nat), .int .u8 ((K 5).toNat : Nat), .int .u8 ((K 6).toNat : Nat), .int .u8 ((K 7).toNat : Nat), .int .u8 ((K 8).toNat : Nat), .int .u8 ((K 9).toNat : Nat), .int .u8 ((K 10).toNat : Nat), .int .u8 ((K 11).toNat : Nat), .int .u8 ((K 12).toNat : Nat), .int .u8 ((K 13).toNat : Nat), .int .u8 ((K 14).toNat : Nat), .int .u8 ((K 15).toNat : Nat), .int .u8 ((K 16).toNat : Nat), .int .u8 ((K 17).toNat : Nat), .int .u8 ((K 18).toNat : Nat), .int .u8 ((K 19).toNat : Nat), .int .u8 ((K 20).toNat : Nat), .int .u8 ((K 21).toNat : Nat), .int .u8 ((K 22).toNat : Nat), .int .u8 ((K 23).toNat : Nat), .int .u8 ((K 24).toNat : Nat), .int .u8 ((K 25).toNat : Nat), .int .u8 ((K 26).toNat : Nat), .int .u8 ((K 27).toNat : Nat), .int .u8 ((K 28).toNat : Nat), .int .u8 ((K 29).toNat : Nat), .int .u8 ((K 30).toNat : Nat), .int .u8 ((K 31).toNat : Nat)]
theorem keyLit_get (K : Nat → UInt8) : ∀ j, j < 32 → (keyLit K)[j]? = some (.int .u8 ((K j).toNat : Nat)) := by
  intro j hj
  have h : j = 0 ∨ j = 1 ∨ j = 2 ∨ j = 3 ∨ j = 4 ∨ j = 5 ∨ j = 6 ∨ j = 7 ∨ j = 8 ∨ j = 9 ∨ j = 10 ∨ j = 11 ∨ j = 12 ∨ j = 13 ∨ j = 14 ∨ j = 15 ∨ j = 16 ∨ j = 17 ∨ j = 18 ∨ j = 19 ∨ j = 20 ∨ j = 21 ∨ j = 22 ∨ j = 23 ∨ j = 24 ∨ j = 25 ∨ j = 26 ∨ j = 27 ∨ j = 28 ∨ j = 29 ∨ j = 30 ∨ j = 31 := by omega
  rcases h with rfl | rfl | rfl | rfl | rfl | rfl | rfl | rfl | rfl | rfl | rfl | rfl | rfl | rfl | rfl | rfl | rfl | rfl | rfl | rfl | rfl | rfl | rfl | rfl | rfl | rfl | rfl | rfl | rfl | rfl | rfl | rfl
  all_goals rfl

/-- Has at a key written out -/
theorem has_lit (g n : Nat) (E : Nat → Nat) (K : Nat → UInt8) (r : Bool) (w : World) (h1 : 1 ≤ n) (h2 : n ≤ 131072) (hrow : w.rowIs g 25 n (fun i => .int .u64 (E i : Nat))) (hE : ∀ i, i < n → E i < 18446744073709551616) (hr : hasB E (probe K n) = r) :
    Calls Try.prog 8 #[.slice (some ⟨g, 0, none⟩) n n, .agg #[.int .u8 ((K 0).toNat : Nat), .int .u8 ((K 1).toNat : Nat), .int .u8 ((K 2).toNat : Nat), .int .u8 ((K 3).toNat : Nat), .int .u8 ((K 4).toNat : Nat), .int .u8 ((K 5).toNat : Nat), .int .u8 ((K 6).toNat : Nat), .int .u8 ((K 7).toNat : Nat), .int .u8 ((K 8).toNat : Nat), .int .u8 ((K 9).toNat : Nat), .int .u8 ((K 10).toNat : Nat), .int .u8 ((K 11).toNat : Nat), .int .u8 ((K 12).toNat : Nat), .int .u8 ((K 13).toNat : Nat), .int .u8 ((K 14).toNat : Nat), .int .u8 ((K 15).toNat : Nat), .int .u8 ((K 16).toNat : Nat), .int .u8 ((K 17).toNat : Nat), .int .u8 ((K 18).toNat : Nat), .int .u8 ((K 19).toNat : Nat), .int .u8 ((K 20).toNat : Nat), .int .u8 ((K 21).toNat : Nat), .int .u8 ((K 22).toNat : Nat), .int .u8 ((K 23).toNat : Nat), .int .u8 ((K 24).toNat : Nat), .int .u8 ((K 25).toNat : Nat), .int .u8 ((K 26).toNat : Nat), .int .u8 ((K 27).toNat : Nat), .int .u8 ((K 28).toNat : Nat), .int .u8 ((K 29).toNat : Nat), .int .u8 ((K 30).toNat : Nat), .int .u8 ((K 31).toNat : Nat)]] w fun e w' => e = .returned (.bool r) ∧ Below w.heap.size w w' :=
  has_at g n E (keyLit K) K r w (keyLit_get K) h1 h2 hrow hE hr

/-- what lies where -/
structure St2 (w W : World) (kb N0 G A B n m : Nat) (F E : Nat → Nat) (f g : Nat → Value) (ks : Array Value) : Prop where
  rowF : W.rowIs N0 25 n (fun i => .int .u64 (F i : Nat))
  rowG : W.rowIs G 25 n (fun i => .int .u64 (E i : Nat))
  rowA : W.rowIs A 25 m f
  rowB : W.rowIs B 25 m g
  key : W.heap[kb]? = some (.cells ks 23 (0, 0))
  bel : Below w.heap.size w W
theorem St2.setA {w W : World} {kb N0 G A B n m : Nat} {F E : Nat → Nat} {f g : Nat → Value} {ks : Array Value} (h : St2 w W kb N0 G A B n m F E f g ks) (h0 : N0 ≠ A) (h1 : G ≠ A) (h2 : kb ≠ A) (h4 : B ≠ A) (h3 : w.heap.size ≤ A) (i : Nat) (v : Value) :
    St2 w (W.setCell ⟨A, i, none⟩ v) kb N0 G A B n m F E (fun j => if j = i then v else f j) g ks :=
  ⟨h.rowF.setOther h0 _, h.rowG.setOther h1 _, h.rowA.set i v, h.rowB.setOther h4 _, (Below.heap_setCell _ _ _ _ h2).trans h.key, h.bel.setCell h3 _⟩
theorem St2.setB {w W : World} {kb N0 G A B n m : Nat} {F E : Nat → Nat} {f g : Nat → Value} {ks : Array Value} (h : St2 w W kb N0 G A B n m F E f g ks) (h0 : N0 ≠ B) (h1 : G ≠ B) (h2 : kb ≠ B) (h4 : A ≠ B) (h3 : w.heap.size ≤ B) (i : Nat) (v : Value) :
    St2 w (W.setCell ⟨B, i, none⟩ v) kb N0 G A B n m F E f (fun j => if j = i then v else g j) ks :=
  ⟨h.rowF.setOther h0 _, h.rowG.setOther h1 _, h.rowA.setOther h4 _, h.rowB.set i v, (Below.heap_setCell _ _ _ _ h2).trans h.key, h.bel.setCell h3 _⟩
theorem St2.below {w W W' : World} {kb N0 G A B n m : Nat} {F E : Nat → Nat} {f g : Nat → Value} {ks : Array Value} (h : St2 w W kb N0 G A B n m F E f g ks) (hb : Below W.heap.size W W') : St2 w W' kb N0 G A B n m F E f g ks :=
  ⟨h.rowF.of_block (hb.block _ h.rowF.lt), h.rowG.of_block (hb.block _ h.rowG.lt), h.rowA.of_block (hb.block _ h.rowA.lt), h.rowB.of_block (hb.block _ h.rowB.lt), (hb.block _ (lt_of_heap h.key)).trans h.key, h.bel.trans (hb.mono h.bel.size)⟩
theorem St2.drew {w W : World} {kb N0 G A B n m : Nat} {F E : Nat → Nat} {f g : Nat → Value} {ks : Array Value} (h : St2 w W kb N0 G A B n m F E f g ks) : St2 w W.drew kb N0 G A B n m F E f g ks :=
  ⟨h.rowF.of_block rfl, h.rowG.of_block rfl, h.rowA.of_block rfl, h.rowB.of_block rfl, h.key, h.bel.drew⟩

/-- a whole array loaded, as one step of a region that draws -/
theorem step_load_row {P : Program} {ops : Array Oper} {o : Oper} {a : Act} {w : World} {K : Act → World → Prop} {Q : Exit → Act → World → Prop} {D : Prop} (hgd : o.guard = none) (ty : TypeId) (x : Operand) (ho : o.op = .load ty x)
    (g : Nat) (hx : a.eval x = .pointer (some ⟨g, 0, none⟩)) (t : TypeId) (cs : Array Value) (fr : Nat × Nat) (d : TypeDesc) (hg : w.heap[g]? = some (.cells cs t fr))
    (hu : P.underlying ty = some d) (hd : (match d with | .struct _ | .array _ _ => true | _ => false) = true) (hi : (P.info? ty).map (·.size) = some cs.size)
    (h : K (a.put o.dst (.agg cs)) w) : if Region.wanted o (yielded ops a.tmps) = true then Oper.wp P o a w K Q else D := by
  have hw : Region.wanted o (yielded ops a.tmps) = true := by simp [Region.wanted, hgd]
  rw [if_pos hw]
  exact wp_load_row ty x ho g hx t cs fr d hg hu hd hi h

set_option maxHeartbeats 4000000 in
theorem same_some (b off n cap rr : Nat) (F : Nat → Nat) (ks : Array Value) (K : Nat → UInt8) (w : World) (hks : ∀ j, j < 32 → ks[j]? = some (.int .u8 ((K j).toNat : Nat))) (hsz : ks.size = 32) (h1 : 1 ≤ n) (h2 : n ≤ 131072) (hr1 : 1 ≤ rr) (hr2 : rr ≤ 65536) (hnr : n * rr ≤ 131072) (hb : b < w.heap.size) (hF : WordsAt w b off n F) :
    Calls Try.prog 4 #[.slice (some ⟨b, off, none⟩) n cap, .agg ks, .int .i64 rr] w fun e w' => e = .returned (.bool true) ∧ Below w.heap.size w w' := by
  have hl23 : (Try.prog.info? 23).map (·.size) = some ks.size := by rw [hsz]; exact size23
  have hne := fun wx => run_neq_slice_nil_any (P := Try.prog) (w := wx) 22
  have hmk := make22 n (by omega)
  have HF := hid hF
  have HK := hid hks
  clear hF hks
  have hg0 : (w.alloc (.cells ks 23)).heap[w.heap.size]? = some (.cells ks 23 (0, 0)) := heap_alloc_new w _
  obtain ⟨m, hm⟩ : ∃ m, n * rr = m := ⟨_, rfl⟩
  have hmI : (n : Int) * (rr : Int) = (m : Nat) := by rw [← hm, Int.natCast_mul]
  have hm1 : n ≤ m := by rw [← hm]; exact Nat.le_mul_of_pos_right n (by omega)
  have hm2 : m ≤ 131072 := by omega
  have HM := hid hm
  clear hm hnr
  go_enter Try.func4, Try.ntmps4
  go_wp2_with (refine wpList_load_row rfl 23 _ rfl w.heap.size rfl 23 ks (0, 0) _ hg0 Try.underlying23 rfl hl23 ?_)
  refine (bytes9_yes _ _ _ _ _ _ (by omega)).mono ?_
  rintro e W0 ⟨rfl, b0⟩
  have bw0 : Below w.heap.size w W0 := ((Below.refl _ w).alloc (Nat.le_refl _) _).trans (b0.mono (by simp))
  have hg1 : W0.heap[w.heap.size]? = some (.cells ks 23 (0, 0)) := (b0.block _ (by simp)).trans hg0
  have hs0 : w.heap.size < W0.heap.size := by have := b0.size; simp at this; omega
  clear b0 hg0
  have hcs : ∀ j v, ((List.range n).map fun i => Value.int .u64 (F i : Nat))[j]? = some v → (W0.alloc (.cells (madeCells #[.int .u64 0] n) 25)).cell? ⟨b, off + j, none⟩ = some v := by
    intro j v hj
    have hjn : j < n := by
      rcases Nat.lt_or_ge j n with h | h
      · exact h
      · rw [List.getElem?_eq_none (by simpa using h)] at hj; cases hj
    have hv : v = .int .u64 (F j : Nat) := by simpa [hjn] using hj.symm
    rw [hv, World.cell?_of_block (w := W0) (Lib.alloc_old W0 _ b (by show b < W0.heap.size; omega)), bw0.cell (p := ⟨b, off + j, none⟩) hb]
    exact HF.out.1 j hjn
  have hgc : (W0.alloc (.cells (madeCells #[.int .u64 0] n) 25)).heap[W0.heap.size]? = some (.cells (madeCells #[.int .u64 0] n).toList.toArray 25 (0, 0)) := heap_alloc_new W0 _
  obtain ⟨cs, hcsn⟩ : ∃ cs, cs = (List.range n).map fun i => Value.int .u64 (F i : Nat) := ⟨_, rfl⟩
  have hcl : cs.length = n := by rw [hcsn]; simp
  have ho1 : ∀ v ∈ cs, v.oneCell' = true := by
    intro v hv
    rw [hcsn, List.mem_map] at hv
    obtain ⟨i, _, rfl⟩ := hv
    rfl
  rw [← hcsn] at hcs
  have HCS := hid hcsn
  have Hsrc := hid hcs
  have Hcl := hid hcl
  clear hcsn hcs hcl
  go_wp2_with (refine wpList_copy_splice rfl (.tmp 43) (.tmp 44) 22 22 rfl 25 Try.underlying22 size25 _ _ _ _ _ _ rfl rfl W0.heap.size 0 (madeCells #[.int .u64 0] n).toList 25 hgc cs ?hn ?hpos ?hfit ho1 W0.heap.size W0 ((Below.refl _ W0).alloc (Nat.le_refl _) _) (Nat.le_refl _) ?_)
  case hn => rw [Hcl.out]; simp
  case hpos => exact fun _ => Hsrc.out
  case hfit => rw [Hcl.out]; simp [size_madeCells]
  intro w2 HG2 hB2
  have hrow2 : w2.rowIs W0.heap.size 25 n (fun i => .int .u64 (F i : Nat)) := row_of_splice w2 W0.heap.size n F (by rw [← HCS.out]; exact HG2.out)
  have hg2 : w2.heap[w.heap.size]? = some (.cells ks 23 (0, 0)) := (hB2.block _ hs0).trans hg1
  have bw2 := bw0.trans (hB2.mono (Nat.le_of_lt hs0))
  have hs2 : W0.heap.size < w2.heap.size := hrow2.lt
  clear HG2 hgc ho1 Hsrc HCS hB2 hg1
  go_wp2_with (refine wpList_load_row rfl 23 _ rfl w.heap.size rfl 23 ks (0, 0) _ hg2 Try.underlying23 rfl hl23 ?_)
  refine (probeBits_any n ks K w2 HK.out h1 h2).mono ?_
  rintro e W3 ⟨rfl, b3⟩
  have hrow3 : W3.rowIs W0.heap.size 25 n (fun i => .int .u64 (F i : Nat)) := hrow2.of_block (b3.block _ hs2)
  have hg3 := (b3.block _ (Nat.lt_trans hs0 hs2)).trans hg2
  have bw3 := bw2.trans (b3.mono (by omega))
  have hs3 := Nat.lt_of_lt_of_le hs2 b3.size
  clear hrow2 hg2 bw2 b3 bw0
  go_wp2_with fail
  refine (withKey_abs W0.heap.size 0 n n F (probe K n) _ h1 h2 hs3 (words_of_row hrow3 HF.out.2) (fun i _ => probe_lt K n i h1)).mono ?_
  rintro e W4 ⟨G, rfl, hGs, hrowG, b4⟩
  have hrow4 := hrow3.of_block (b4.block _ hs3)
  have hg4 := (b4.block _ (by omega)).trans hg3
  have bw4 := bw3.trans (b4.mono (by omega))
  have hG4 := hrowG.lt
  clear hmk hrow3 hg3 bw3 b4
  have hmk := make22 m (by omega)
  have hst0 : St2 w ((W4.alloc (.cells (madeCells #[.int .u64 0] m) 25)).alloc (.cells (madeCells #[.int .u64 0] m) 25)) w.heap.size W0.heap.size G W4.heap.size (W4.heap.size + 1) n m F (withK F (probe K n) 7) (fun _ => .int .u64 0) (fun _ => .int .u64 0) ks := by
    refine ⟨(hrow4.alloc _).alloc _, (hrowG.alloc _).alloc _, (World.rowIs_made W4 (.int .u64 0) m 25).alloc _, ?_, ?_, (bw4.alloc (by omega) _).alloc (by simp; omega) _⟩
    · have h := World.rowIs_made (W4.alloc (.cells (madeCells #[.int .u64 0] m) 25)) (.int .u64 0) m 25
      have hs : (W4.alloc (.cells (madeCells #[.int .u64 0] m) 25)).heap.size = W4.heap.size + 1 := by simp
      rw [hs] at h
      exact h
    · exact (Lib.alloc_old _ _ _ (by simp; omega)).trans ((Lib.alloc_old _ _ _ (by omega)).trans hg4)
  obtain ⟨E, hE⟩ : ∃ E, E = withK F (probe K n) 7 := ⟨_, rfl⟩
  rw [← hE] at hst0
  have HE := hid hE
  have HST := hid hst0
  clear hE hst0 hrow4 hrowG bw4 hg4
  go_wp2_with fail
  have hst0 := HST.out
  obtain ⟨N0, hN0⟩ : ∃ N0, N0 = W0.heap.size := ⟨_, rfl⟩
  obtain ⟨A, hA⟩ : ∃ A, A = W4.heap.size := ⟨_, rfl⟩
  rw [← hN0] at hst0 ⊢
  have a0 : N0 ≠ A := by omega
  have a1 : G ≠ A := by omega
  have a2 : w.heap.size ≠ A := by omega
  have a3 : w.heap.size ≤ A := by omega
  have a4 : A + 1 ≠ A := by omega
  have b0 : N0 ≠ A + 1 := by omega
  have b1 : G ≠ A + 1 := by omega
  have b2 : w.heap.size ≠ A + 1 := by omega
  have b3 : w.heap.size ≤ A + 1 := by omega
  have b4 : A ≠ A + 1 := by omega
  rw [← hA] at hst0 ⊢
  clear hs0 hs2 hs3 hmk hN0 hA hGs hG4 HST
  go_loopw [12] (fun t wr => ∃ (k : Nat) (f g : Nat → Value), k ≤ rr ∧ t = .int .i64 k ∧ St2 w wr w.heap.size N0 G A (A + 1) n m F E f g ks ∧ ∀ j, j < k * n → f j = .int .u64 (F (j % n) : Nat) ∧ g j = .int .u64 (E (j % n) : Nat)) (fun t _ => rr - (intOf t).toNat)
  case atStart => exact ⟨0, _, _, Nat.zero_le _, rfl, hst0, fun j hj => absurd hj (by simp)⟩
  case round =>
    clear hst0
    obtain ⟨k, f, g, hk, rfl, hst, hfg0⟩ := hrel
    have hfg := hid hfg0
    clear hfg0
    by_cases hlt : k < rr
    · obtain ⟨kn, hkn⟩ : ∃ kn, k * n = kn := ⟨_, rfl⟩
      have hknI : (k : Int) * (n : Int) = (kn : Nat) := by rw [← hkn, Int.natCast_mul]
      have hknm : kn + n ≤ m := by
        rw [← hkn, ← HM.out, ← Nat.succ_mul, Nat.mul_comm n rr]
        exact Nat.mul_le_mul_right n hlt
      have hkn0 : (0 : Int) ≤ (kn : Nat) := by omega
      have HKN := hid hkn
      clear hkn
      go_wp2
      go_loopw [13] (fun i wr => ∃ (q : Nat) (f g : Nat → Value), q ≤ n ∧ i = .int .i64 q ∧ St2 w wr w.heap.size N0 G A (A + 1) n m F E f g ks ∧ ∀ j, j < kn + q → f j = .int .u64 (F (j % n) : Nat) ∧ g j = .int .u64 (E (j % n) : Nat)) (fun i _ => n - (intOf i).toNat)
      case atStart => exact ⟨0, f, g, Nat.zero_le _, rfl, hst, fun j hj => hfg.out j (by rw [HKN.out]; exact hj)⟩
      case round =>
        clear hst hfg
        obtain ⟨q, f, g, hq, rfl, hst, hfg0⟩ := hrel
        have hfg := hid hfg0
        clear hfg0
        by_cases hlt2 : q < n
        · have cF := hst.rowF.cell (i := q) hlt2
          have cG := hst.rowG.cell (i := q) hlt2
          have cA := hst.rowA.cell (i := kn + q) (by omega)
          have zA := hst.rowA.frozen (kn + q)
          have hstA := hst.setA a0 a1 a2 a4 a3 (kn + q) (.int .u64 (F q : Nat))
          have cB := hstA.rowB.cell (i := kn + q) (by omega)
          have zB := hstA.rowB.frozen (kn + q)
          have cG2 := hstA.rowG.cell (i := q) hlt2
          go_wp2
          go_roundw
          case rel =>
            refine ⟨q + 1, _, _, by omega, by go_num, hstA.setB b0 b1 b2 b4 b3 (kn + q) (.int .u64 (E q : Nat)), fun j hj => ?_⟩
            by_cases e : j = kn + q
            · have em : j % n = q := by rw [e, ← HKN.out, Nat.mul_add_mod', Nat.mod_eq_of_lt hlt2]
              simp only [if_pos e, em]
              exact ⟨trivial, trivial⟩
            · simp only [if_neg e]
              exact hfg.out j (by omega)
          case measure => simp [intOf]; omega
        · have hqn : q = n := by omega
          have hend : kn + q = (k + 1) * n := by rw [hqn, ← HKN.out, Nat.succ_mul]
          have HEND := hid hend
          clear hqn hend
          go_wp2
          go_roundw
          case rel => exact ⟨k + 1, f, g, by omega, by go_num, hst, fun j hj => hfg.out j (by rw [HEND.out]; exact hj)⟩
          case measure => simp [intOf]; omega
    · have hkr : k = rr := by omega
      have hmk2 : k * n = m := by rw [hkr, Nat.mul_comm]; exact HM.out
      have hrA : wr.rowIs A 25 m (fun i => .int .u64 ((fun i => F (i % n)) i : Nat)) := hst.rowA.congr (fun i hi => (hfg.out i (by omega)).1)
      have hrB : wr.rowIs (A + 1) 25 m (fun i => .int .u64 ((fun i => E (i % n)) i : Nat)) := hst.rowB.congr (fun i hi => (hfg.out i (by omega)).2)
      have hElt : ∀ i, i < n → E i < 18446744073709551616 := fun i hi => by rw [HE.out]; exact withK_lt F (probe K n) i (HF.out.2 i hi) 7
      have hAlt : ∀ i, i < m → (fun i => F (i % n)) i < 18446744073709551616 := fun i _ => HF.out.2 _ (Nat.mod_lt _ (by omega))
      have hBlt : ∀ i, i < m → (fun i => E (i % n)) i < 18446744073709551616 := fun i _ => hElt _ (Nat.mod_lt _ (by omega))
      have hBt : hasB (fun i => E (i % n)) (probe K m) = true := by rw [← HM.out, law_same, HE.out]; exact law_a F (probe K n)
      have hAt : hasB (fun i => F (i % n)) (probe K m) = hasB F (probe K n) := by rw [← HM.out, law_same]
      have hst2 : St2 w wr w.heap.size N0 G A (A + 1) n m F E (fun i => .int .u64 ((fun i => F (i % n)) i : Nat)) (fun i => .int .u64 ((fun i => E (i % n)) i : Nat)) ks := ⟨hst.rowF, hst.rowG, hrA, hrB, hst.key, hst.bel⟩
      have HAlt := hid hAlt
      have HBlt := hid hBlt
      have HBt := hid hBt
      have HAt := hid hAt
      clear hkr hmk2 hrA hrB hElt hAlt hBlt hBt hAt hst hfg
      have hky := hst2.key
      go_wp2_with (refine wpList_load_row rfl 23 _ rfl w.heap.size rfl 23 ks (0, 0) _ hky Try.underlying23 rfl hl23 ?_)
      refine (has_at (A + 1) m _ ks K true wr HK.out (by omega) hm2 hst2.rowB HBlt.out HBt.out).mono ?_
      rintro e W5 ⟨rfl, b5⟩
      have hst5 := hst2.below b5
      clear hst2 b5 hky
      go_wp2
      have hc5 : ∀ j, j < 32 → W5.cell? ⟨w.heap.size, j, none⟩ = some (.int .u8 ((K j).toNat : Nat)) := fun j hj => by rw [Lib.cell_of_heap hst5.key]; exact HK.out j hj
      obtain ⟨r, hr⟩ : ∃ r, hasB F (probe K n) = r := ⟨_, rfl⟩
      have HR := hid hr
      clear hr
      have hm3 : 1 ≤ m := by omega
      clear hc5
      obtain ⟨r, hr⟩ : ∃ r, hasB F (probe K n) = r := ⟨_, rfl⟩
      have HR := hid hr
      clear hr
      have hm3 : 1 ≤ m := by omega
      have hk5 := hst5.key
      refine wp_region_any (by kernel_rfl) ?_
      change wpAny _ _ _ _ _ _ _ (World.drew _)
      refine wpAny_take (i := 0) (v := ?_) rfl (by kernel_rfl) (by kernel_rfl) (by kernel_rfl) (fun _ _ _ h => h) (Or.inl ⟨by rfl, ?_⟩) ?_
      rotate_left
      · intro wx; go_simp; with_reducible rfl
      refine wpAny_take (i := 3) (v := ?_) rfl (by kernel_rfl) (by kernel_rfl) (by kernel_rfl) (fun _ _ _ h => h) (Or.inl ⟨by rfl, ?_⟩) ?_
      rotate_left
      · intro wx; go_simp; with_reducible rfl
      refine wpAny_ready (rs := [1, 4]) (by kernel_rfl) (by simp) ?_
      refine AllReady.cons rfl (fun K0 hK => ?_) (AllReady.cons rfl (fun K0 hK => ?_) AllReady.nil)
      · refine step_load_row rfl 23 (.tmp 4) rfl w.heap.size rfl 23 ks (0, 0) _ hk5 Try.underlying23 rfl hl23 ?_
        refine hK _ _ ?_
        clear hK K0
        refine wpAny_ready (rs := [2, 4]) (by kernel_rfl) (by simp) ?_
        refine AllReady.cons rfl (fun K0 hK => ?_) (AllReady.cons rfl (fun K0 hK => ?_) AllReady.nil)
        · go_simp
          go_wp2_with (go_at_call 8; refine (has_at A m _ ks K r _ HK.out hm3 hm2 (by exact hst5.rowA) HAlt.out (HAt.out.trans HR.out)).mono ?_; rintro e W6 ⟨rfl, b6⟩)
          have hst6 := hst5.drew.below b6
          have hk6 := hst6.key
          refine wpAny_ready (rs := [4]) (by kernel_rfl) (by simp) ?_
          refine AllReady.cons rfl (fun K0 hK => ?_) AllReady.nil
          refine step_load_row rfl 23 (.tmp 4) rfl w.heap.size rfl 23 ks (0, 0) _ hk6 Try.underlying23 rfl hl23 ?_
          refine hK _ _ ?_
          clear hK K0
          refine wpAny_ready (rs := [5]) (by kernel_rfl) (by simp) ?_
          refine AllReady.cons rfl (fun K0 hK => ?_) AllReady.nil
          go_simp
          go_wp2_with (go_at_call 8; refine (has_at N0 n F ks K r _ HK.out h1 h2 (by exact hst6.rowF) HF.out.2 HR.out).mono ?_; rintro e W7 ⟨rfl, b7⟩)
          have hst7 := hst6.below b7
          refine wpAny_ready (rs := [6]) (by kernel_rfl) (by simp) ?_
          refine AllReady.cons rfl (fun K0 hK => ?_) AllReady.nil
          go_simp
          refine hK _ _ ?_
          clear hK K0
          refine wpAny_ready (rs := [7]) (by kernel_rfl) (by simp) ?_
          refine AllReady.cons rfl (fun K0 hK => ?_) AllReady.nil
          go_simp
          refine hK _ _ ?_
          clear hK K0
          refine wpAny_done (by kernel_rfl) ?_ _
          go_wp2
          go_ret
          exact ⟨rfl, hst7.bel⟩
        · refine step_load_row rfl 23 (.tmp 4) rfl w.heap.size rfl 23 ks (0, 0) _ hk5 Try.underlying23 rfl hl23 ?_
          refine hK _ _ ?_
          clear hK K0
          refine wpAny_ready (rs := [2]) (by kernel_rfl) (by simp) ?_
          refine AllReady.cons rfl (fun K0 hK => ?_) AllReady.nil
          go_simp
          go_wp2_with (go_at_call 8; refine (has_at A m _ ks K r _ HK.out hm3 hm2 (by exact hst5.rowA) HAlt.out (HAt.out.trans HR.out)).mono ?_; rintro e W6 ⟨rfl, b6⟩)
          have hst6 := hst5.drew.below b6
          have hk6 := hst6.key
          refine wpAny_ready (rs := [5]) (by kernel_rfl) (by simp) ?_
          refine AllReady.cons rfl (fun K0 hK => ?_) AllReady.nil
          go_simp
          go_wp2_with (go_at_call 8; refine (has_at N0 n F ks K r _ HK.out h1 h2 (by exact hst6.rowF) HF.out.2 HR.out).mono ?_; rintro e W7 ⟨rfl, b7⟩)
          have hst7 := hst6.below b7
          refine wpAny_ready (rs := [6]) (by kernel_rfl) (by simp) ?_
          refine AllReady.cons rfl (fun K0 hK => ?_) AllReady.nil
          go_simp
          refine hK _ _ ?_
          clear hK K0
          refine wpAny_ready (rs := [7]) (by kernel_rfl) (by simp) ?_
          refine AllReady.cons rfl (fun K0 hK => ?_) AllReady.nil
          go_simp
          refine hK _ _ ?_
          clear hK K0
          refine wpAny_done (by kernel_rfl) ?_ _
          go_wp2
          go_ret
          exact ⟨rfl, hst7.bel⟩
      · refine step_load_row rfl 23 (.tmp 4) rfl w.heap.size rfl 23 ks (0, 0) _ hk5 Try.underlying23 rfl hl23 ?_
        refine hK _ _ ?_
        clear hK K0
        refine wpAny_ready (rs := [1]) (by kernel_rfl) (by simp) ?_
        refine AllReady.cons rfl (fun K0 hK => ?_) AllReady.nil
        refine step_load_row rfl 23 (.tmp 4) rfl w.heap.size rfl 23 ks (0, 0) _ hk5 Try.underlying23 rfl hl23 ?_
        refine hK _ _ ?_
        clear hK K0
        refine wpAny_ready (rs := [2]) (by kernel_rfl) (by simp) ?_
        refine AllReady.cons rfl (fun K0 hK => ?_) AllReady.nil
        go_simp
        go_wp2_with (go_at_call 8; refine (has_at A m _ ks K r _ HK.out hm3 hm2 (by exact hst5.rowA) HAlt.out (HAt.out.trans HR.out)).mono ?_; rintro e W6 ⟨rfl, b6⟩)
        have hst6 := hst5.drew.below b6
        have hk6 := hst6.key
        refine wpAny_ready (rs := [5]) (by kernel_rfl) (by simp) ?_
        refine AllReady.cons rfl (fun K0 hK => ?_) AllReady.nil
        go_simp
        go_wp2_with (go_at_call 8; refine (has_at N0 n F ks K r _ HK.out h1 h2 (by exact hst6.rowF) HF.out.2 HR.out).mono ?_; rintro e W7 ⟨rfl, b7⟩)
        have hst7 := hst6.below b7
        refine wpAny_ready (rs := [6]) (by kernel_rfl) (by simp) ?_
        refine AllReady.cons rfl (fun K0 hK => ?_) AllReady.nil
        go_simp
        refine hK _ _ ?_
        clear hK K0
        refine wpAny_ready (rs := [7]) (by kernel_rfl) (by simp) ?_
        refine AllReady.cons rfl (fun K0 hK => ?_) AllReady.nil
        go_simp
        refine hK _ _ ?_
        clear hK K0
        refine wpAny_done (by kernel_rfl) ?_ _
        go_wp2
        go_ret
        exact ⟨rfl, hst7.bel⟩
end Go.Proofs.Qxb6630360a.Own
