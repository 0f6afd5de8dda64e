/-
  FnHasExactlyWhenAddingKeyChangesNothing: the walk.
-/
import Derived.Test.Qxb6630360aLaw
import Derived.Laws.CopyOwn
import Derived.WalkSpells
set_option linter.unusedSimpArgs false
namespace Go.Proofs.Qxb6630360a.Own
open Go.RowKit

theorem size23 : (Try.prog.info? 23).map (·.size) = some 32 := by kernel_rfl
theorem size25 : (Try.prog.info? 25).map (·.size) = some 1 := by kernel_rfl

/-- a row that has been copied over whole -/
theorem row_of_splice (W : World) (g n : Nat) (F : Nat → Nat) (h : W.heap[g]? = some (.cells (splice (madeCells #[.int .u64 0] n).toList 0 ((List.range n).map fun i => Value.int .u64 (F i : Nat))).toArray 25 (0, 0))) : W.rowIs g 25 n (fun i => .int .u64 (F i : Nat)) := by
  have hl : (madeCells #[.int .u64 0] n).toList.length = n := by rw [Array.length_toList]; exact size_madeCells _ _
  have e : splice (madeCells #[.int .u64 0] n).toList 0 ((List.range n).map fun i => Value.int .u64 (F i : Nat)) = (List.range n).map fun i => Value.int .u64 (F i : Nat) := by
    unfold splice
    rw [List.take_zero, List.nil_append, List.drop_of_length_le (by simp [hl]), List.append_nil]
  rw [e] at h
  refine ⟨_, h, by simp, fun i hi => ?_⟩
  simp [hi]
theorem words_of_row {W : World} {g n : Nat} {F : Nat → Nat} (h : W.rowIs g 25 n (fun i => .int .u64 (F i : Nat))) (hF : ∀ i, i < n → F i < 18446744073709551616) : WordsAt W g 0 n F :=
  ⟨fun i hi => by rw [Nat.zero_add]; exact h.cell hi, hF⟩

/-- what lies where, behind zzWithKey: the filter in N0, the filter with the key in G, the probes in N1, the key in kb -/
structure St (w W : World) (kb N0 G N1 n : Nat) (F E P : Nat → Nat) (ks : Array Value) : Prop where
  rowF : W.rowIs N0 25 n (fun i => .int .u64 (F i : Nat))
  rowG : W.rowIs G 25 n (fun i => .int .u64 (E i : Nat))
  prb : W.heap[N1]? = some (.cells (cellsP P) 26 (0, 0))
  key : W.heap[kb]? = some (.cells ks 23 (0, 0))
  bel : Below w.heap.size w W
theorem lt_of_heap {W : World} {k : Nat} {o : Obj} (h : W.heap[k]? = some o) : k < W.heap.size := (Array.getElem?_eq_some_iff.1 h).1
theorem St.drewN {w W : World} {kb N0 G N1 n : Nat} {F E P : Nat → Nat} {ks : Array Value} (h : St w W kb N0 G N1 n F E P ks) (q : Nat) : St w (W.drewN q) kb N0 G N1 n F E P ks :=
  ⟨h.rowF.of_block rfl, h.rowG.of_block rfl, h.prb, h.key, below_drewN h.bel q⟩
theorem St.below {w W W' : World} {kb N0 G N1 n : Nat} {F E P : Nat → Nat} {ks : Array Value} (h : St w W kb N0 G N1 n F E P ks) (hb : Below W.heap.size W W') : St w W' kb N0 G N1 n F E P ks :=
  ⟨h.rowF.of_block (hb.block _ h.rowF.lt), h.rowG.of_block (hb.block _ h.rowG.lt), (hb.block _ (lt_of_heap h.prb)).trans h.prb, (hb.block _ (lt_of_heap h.key)).trans h.key, h.bel.trans (hb.mono h.bel.size)⟩
theorem St.set {w W : World} {kb N0 G N1 n : Nat} {F E P : Nat → Nat} {ks : Array Value} (h : St w W kb N0 G N1 n F E P ks) (h0 : N0 ≠ G) (h1 : N1 ≠ G) (h2 : kb ≠ G) (h3 : w.heap.size ≤ G) (i x : Nat) :
    St w (W.setCell ⟨G, i, none⟩ (.int .u64 (x : Nat))) kb N0 G N1 n F (fun j => if j = i then x else E j) P ks :=
  ⟨h.rowF.setOther h0 _, (h.rowG.set i _).congr (fun j _ => by by_cases e : j = i <;> simp [e]), (Below.heap_setCell _ _ _ _ h1).trans h.prb, (Below.heap_setCell _ _ _ _ h2).trans h.key, h.bel.setCell h3 _⟩
theorem St.congr {w W : World} {kb N0 G N1 n : Nat} {F E E' P : Nat → Nat} {ks : Array Value} (h : St w W kb N0 G N1 n F E P ks) (he : ∀ i, i < n → E i = E' i) : St w W kb N0 G N1 n F E' P ks :=
  ⟨h.rowF, h.rowG.congr (fun i hi => by rw [he i hi]), h.prb, h.key, h.bel⟩
theorem St.probe {w W : World} {kb N0 G N1 n : Nat} {F E P : Nat → Nat} {ks : Array Value} (h : St w W kb N0 G N1 n F E P ks) (k : Nat) (hk : k < 7) : W.cell? ⟨N1, k, none⟩ = some (.int .u64 (P k : Nat)) := by
  rw [Lib.cell_of_heap h.prb]; exact cellsP_get P k hk

def sameB (F E : Nat → Nat) (k : Nat) : Bool := (List.range k).all (fun j => F j == E j)
theorem sameB_succ (F E : Nat → Nat) (k : Nat) : sameB F E (k + 1) = (sameB F E k && (F k == E k)) := by
  unfold sameB
  rw [List.range_succ, List.all_append]
  simp
theorem sameB_iff (F E : Nat → Nat) (k : Nat) : sameB F E k = true ↔ ∀ j, j < k → F j = E j := by
  unfold sameB
  rw [List.all_eq_true]
  constructor
  · intro h j hj
    simpa using h j (List.mem_range.2 hj)
  · intro h j hj
    simpa using h j (List.mem_range.1 hj)
theorem val_bool {a b : Bool} (h : a = b) : Value.bool a = .bool b := by rw [h]

/-- zzWithKey, the new row's block under a name -/
theorem withKey_abs (b off n cap : Nat) (F P : Nat → Nat) (w : World) (h1 : 1 ≤ n) (h2 : n ≤ 131072) (hb : b < w.heap.size) (hF : WordsAt w b off n F) (hP : ∀ i, i < 7 → P i < n * 64) :
    Calls Try.prog 7 #[.slice (some ⟨b, off, none⟩) n cap, .agg #[.int .u64 (P 0 : Nat), .int .u64 (P 1 : Nat), .int .u64 (P 2 : Nat), .int .u64 (P 3 : Nat), .int .u64 (P 4 : Nat), .int .u64 (P 5 : Nat), .int .u64 (P 6 : Nat)]] w fun e w' =>
      ∃ G, e = .returned (.slice (some ⟨G, 0, none⟩) n n) ∧ w.heap.size ≤ G ∧ w'.rowIs G 25 n (fun i => .int .u64 (withK F P 7 i : Nat)) ∧ Below w.heap.size w w' := by
  refine (withKey_any b off n cap F P w h1 h2 hb hF hP).mono ?_
  rintro e w' ⟨rfl, h3, h4⟩
  exact ⟨_, rfl, by omega, h3, h4⟩

/-- Has over a row, its answer under a name -/
theorem has_at (g n : Nat) (E : Nat → Nat) (ks : Array Value) (K : Nat → UInt8) (r : Bool) (w : World) (hks : ∀ j, j < 32 → ks[j]? = some (.int .u8 ((K j).toNat : Nat))) (h1 : 1 ≤ n) (h2 : n ≤ 131072) (hrow : w.rowIs g 25 n (fun i => .int .u64 (E i : Nat))) (hE : ∀ i, i < n → E i < 18446744073709551616) (hr : hasB E (probe K n) = r) :
    Calls Try.prog 8 #[.slice (some ⟨g, 0, none⟩) n n, .agg ks] w fun e w' => e = .returned (.bool r) ∧ Below w.heap.size w w' := by
  rw [← hr]
  exact has_any g 0 n n E ks K w hks h1 h2 hrow.lt (words_of_row hrow hE)

set_option maxHeartbeats 4000000 in
theorem exact_some (b off n cap : Nat) (F : Nat → Nat) (ks : Array Value) (K : Nat → UInt8) (w : World) (hks : ∀ j, j < 32 → ks[j]? = some (.int .u8 ((K j).toNat : Nat))) (hsz : ks.size = 32) (h1 : 1 ≤ n) (h2 : n ≤ 131072) (hb : b < w.heap.size) (hF : WordsAt w b off n F) :
    Calls Try.prog 3 #[.slice (some ⟨b, off, none⟩) n cap, .agg ks] w fun e w' => e = .returned (.bool true) ∧ Below w.heap.size w w' := by
  have hl23 : (Try.prog.info? 23).map (·.size) = some ks.size := by rw [hsz]; exact size23
  have hne := fun wx => run_neq_slice_nil_any (P := Try.prog) (w := wx) 22
  have hmk := make22 n (by omega)
  have HF := hid hF
  have HK := hid hks
  clear hF hks
  have hg0 : (w.alloc (.cells ks 23)).heap[w.heap.size]? = some (.cells ks 23 (0, 0)) := heap_alloc_new w _
  go_enter Try.func3, Try.ntmps3
  go_wp2_with (refine wpList_load_row rfl 23 _ rfl w.heap.size rfl 23 ks (0, 0) _ hg0 Try.underlying23 rfl hl23 ?_)
  refine (bytes5_yes _ _ _ _ _ (by omega)).mono ?_
  rintro e W0 ⟨rfl, b0⟩
  have bw0 : Below w.heap.size w W0 := ((Below.refl _ w).alloc (Nat.le_refl _) _).trans (b0.mono (by simp))
  have hg1 : W0.heap[w.heap.size]? = some (.cells ks 23 (0, 0)) := (b0.block _ (by simp)).trans hg0
  have hs0 : w.heap.size < W0.heap.size := by have := b0.size; simp at this; omega
  clear b0 hg0
  have hcs : ∀ j v, ((List.range n).map fun i => Value.int .u64 (F i : Nat))[j]? = some v → (W0.alloc (.cells (madeCells #[.int .u64 0] n) 25)).cell? ⟨b, off + j, none⟩ = some v := by
    intro j v hj
    have hjn : j < n := by
      rcases Nat.lt_or_ge j n with h | h
      · exact h
      · rw [List.getElem?_eq_none (by simpa using h)] at hj; cases hj
    have hv : v = .int .u64 (F j : Nat) := by simpa [hjn] using hj.symm
    rw [hv, World.cell?_of_block (w := W0) (Lib.alloc_old W0 _ b (by show b < W0.heap.size; omega)), bw0.cell (p := ⟨b, off + j, none⟩) hb]
    exact HF.out.1 j hjn
  have hgc : (W0.alloc (.cells (madeCells #[.int .u64 0] n) 25)).heap[W0.heap.size]? = some (.cells (madeCells #[.int .u64 0] n).toList.toArray 25 (0, 0)) := heap_alloc_new W0 _
  obtain ⟨cs, hcsn⟩ : ∃ cs, cs = (List.range n).map fun i => Value.int .u64 (F i : Nat) := ⟨_, rfl⟩
  have hcl : cs.length = n := by rw [hcsn]; simp
  have ho1 : ∀ v ∈ cs, v.oneCell' = true := by
    intro v hv
    rw [hcsn, List.mem_map] at hv
    obtain ⟨i, _, rfl⟩ := hv
    rfl
  rw [← hcsn] at hcs
  have HCS := hid hcsn
  have Hsrc := hid hcs
  have Hcl := hid hcl
  clear hcsn hcs hcl
  go_wp2_with (refine wpList_copy_splice rfl (.tmp 29) (.tmp 30) 22 22 rfl 25 Try.underlying22 size25 _ _ _ _ _ _ rfl rfl W0.heap.size 0 (madeCells #[.int .u64 0] n).toList 25 hgc cs ?hn ?hpos ?hfit ho1 W0.heap.size W0 ((Below.refl _ W0).alloc (Nat.le_refl _) _) (Nat.le_refl _) ?_)
  case hn => rw [Hcl.out]; simp
  case hpos => exact fun _ => Hsrc.out
  case hfit => rw [Hcl.out]; simp [size_madeCells]
  intro w2 HG2 hB2
  have hrow2 : w2.rowIs W0.heap.size 25 n (fun i => .int .u64 (F i : Nat)) := row_of_splice w2 W0.heap.size n F (by rw [← HCS.out]; exact HG2.out)
  have hg2 : w2.heap[w.heap.size]? = some (.cells ks 23 (0, 0)) := (hB2.block _ hs0).trans hg1
  have bw2 := bw0.trans (hB2.mono (Nat.le_of_lt hs0))
  have hs2 : W0.heap.size < w2.heap.size := hrow2.lt
  clear HG2 hgc ho1 Hsrc HCS hB2 hg1
  go_wp2_with (refine wpList_load_row rfl 23 _ rfl w.heap.size rfl 23 ks (0, 0) _ hg2 Try.underlying23 rfl hl23 ?_)
  refine (probeBits_any n ks K w2 HK.out h1 h2).mono ?_
  rintro e W3 ⟨rfl, b3⟩
  have hrow3 : W3.rowIs W0.heap.size 25 n (fun i => .int .u64 (F i : Nat)) := hrow2.of_block (b3.block _ hs2)
  have hg3 := (b3.block _ (Nat.lt_trans hs0 hs2)).trans hg2
  have bw3 := bw2.trans (b3.mono (by omega))
  have hs3 := Nat.lt_of_lt_of_le hs2 b3.size
  clear hrow2 hg2 bw2 b3 bw0
  go_wp2_with fail
  have hsz3 : (W3.alloc (.cells (cellsP (probe K n)) 26)).heap.size = W3.heap.size + 1 := by simp
  have hrow3' : (W3.alloc (.cells (cellsP (probe K n)) 26)).rowIs W0.heap.size 25 n (fun i => .int .u64 (F i : Nat)) := hrow3.alloc _
  refine (withKey_abs W0.heap.size 0 n n F (probe K n) _ h1 h2 (by simp; omega) (words_of_row hrow3' HF.out.2) (fun i _ => probe_lt K n i h1)).mono ?_
  rintro e W4 ⟨G, rfl, hGs, hrowG, b4⟩
  have b4' : Below (W3.heap.size + 1) (W3.alloc (.cells (cellsP (probe K n)) 26)) W4 := b4.mono (by simp)
  have hGs' : W3.heap.size + 1 ≤ G := by have h : (W3.alloc (.cells (cellsP (probe K n)) 26)).heap.size ≤ G := hGs; rw [hsz3] at h; exact h
  have hst : St w W4 w.heap.size W0.heap.size G W3.heap.size n F (withK F (probe K n) 7) (probe K n) ks :=
    ⟨hrow3'.of_block (b4'.block _ (by omega)), hrowG, (b4'.block _ (by omega)).trans (heap_alloc_new W3 _), (b4'.block _ (by omega)).trans ((Lib.alloc_old W3 _ _ (by omega)).trans hg3), (bw3.alloc (by omega) _).trans (b4'.mono (by omega))⟩
  have g0 : W0.heap.size ≠ G := by omega
  have g1 : W3.heap.size ≠ G := by omega
  have g2 : w.heap.size ≠ G := by omega
  have g3 : w.heap.size ≤ G := by omega
  clear b4 b4' hGs hGs' hrowG hrow3' hrow3 hg3 bw3 hsz3
  obtain ⟨N0, hN0⟩ : ∃ N0, N0 = W0.heap.size := ⟨_, rfl⟩
  obtain ⟨N1, hN1⟩ : ∃ N1, N1 = W3.heap.size := ⟨_, rfl⟩
  rw [← hN0] at hst g0 ⊢
  rw [← hN1] at hst g1 ⊢
  clear hs0 hs2 hs3 hmk
  obtain ⟨E, hE⟩ : ∃ E, E = withK F (probe K n) 7 := ⟨_, rfl⟩
  rw [← hE] at hst
  have HE := hid hE
  have HN0 := hid hN0
  have HN1 := hid hN1
  clear hE hN0 hN1
  go_wp2_with fail
  go_loopw [8, 9] (fun s i wr => ∃ k : Nat, k ≤ n ∧ i = .int .i64 k ∧ s = .bool (sameB F E k) ∧ St w wr w.heap.size N0 G N1 n F E (probe K n) ks) (fun _ i _ => n - (intOf i).toNat)
  case atStart => exact ⟨0, Nat.zero_le _, rfl, rfl, hst⟩
  case round =>
    clear hst
    obtain ⟨k, hk, rfl, rfl, hst⟩ := hrel
    by_cases hlt : k < n
    · have hlt' : (k : Int) < (n : Int) := by omega
      have cF := hst.rowF.cell (i := k) hlt
      have cG := hst.rowG.cell (i := k) hlt
      have hsu := hid (sameB_succ F E k)
      by_cases hfe : F k = E k
      · have hq1 : (((F k : Nat) : Int) == ((E k : Nat) : Int)) = true := by rw [hfe]; simp
        have hq2 := hid (show (F k == E k) = true by rw [hfe]; simp)
        clear hfe
        go_wp2
        go_quiet (fail)
        go_wp2
        go_roundw
        case rel => exact ⟨k + 1, by omega, by go_num, val_bool (by rw [hsu.out, hq2.out, Bool.and_true]), hst.drewN _⟩
        case measure => simp [intOf]; omega
      · have hq1 : (((F k : Nat) : Int) == ((E k : Nat) : Int)) = false := beq_eq_false_iff_ne.2 (by omega)
        have hq2 := hid (show (F k == E k) = false from beq_eq_false_iff_ne.2 hfe)
        clear hfe
        go_wp2
        go_quiet (fail)
        go_wp2
        go_roundw
        case rel => exact ⟨k + 1, by omega, by go_num, val_bool (by rw [hsu.out, hq2.out, Bool.and_false]), hst.drewN _⟩
        case measure => simp [intOf]; omega
    · have hkn : k = n := by omega
      have hG0 : hasB E (probe K n) = true := by rw [HE.out]; exact law_a F (probe K n)
      have hF0 : hasB F (probe K n) = sameB F E k := by
        rw [hkn, Bool.eq_iff_iff, sameB_iff, HE.out]
        exact law_b F (probe K n) n (fun i _ => probe_lt K n i h1)
      have HF0 := hid hF0
      have HG0 := hid hG0
      clear hF0 hG0 hkn
      have hElt : ∀ i, i < n → E i < 18446744073709551616 := fun i hi => by rw [HE.out]; exact withK_lt F (probe K n) i (HF.out.2 i hi) 7
      have HEL := hid hElt
      clear hElt
      have hky := hst.key
      go_wp2_with (refine wpList_load_row rfl 23 _ rfl w.heap.size rfl 23 ks (0, 0) _ hky Try.underlying23 rfl hl23 ?_)
      refine (has_at G n E ks K true wr HK.out h1 h2 hst.rowG HEL.out HG0.out).mono ?_
      rintro e W5 ⟨rfl, b5⟩
      have hst5 := hst.below b5
      clear hst b5 hky
      have hky := hst5.key
      go_wp2_with (refine wpList_load_row rfl 23 _ rfl w.heap.size rfl 23 ks (0, 0) _ hky Try.underlying23 rfl hl23 ?_)
      refine (has_at N0 n F ks K (sameB F E k) W5 HK.out h1 h2 hst5.rowF HF.out.2 HF0.out).mono ?_
      rintro e W6 ⟨rfl, b6⟩
      have hst6 := hst5.below b6
      clear hst5 b6 hky
      go_wp2
      go_loopw [10] (fun i wr => ∃ m : Nat, m ≤ 7 ∧ i = .int .i64 m ∧ St w wr w.heap.size N0 G N1 n F E (probe K n) ks) (fun i _ => 7 - (intOf i).toNat)
      case atStart => exact ⟨0, Nat.zero_le _, rfl, hst6⟩
      case round =>
        clear hst6
        obtain ⟨m, hm, rfl, hst⟩ := hrel
        by_cases hlt7 : m < 7
        · have hp := probe_lt K n m h1
          have cp := hst.probe m hlt7
          have hcl := law_c E (probe K n) m hlt7
          obtain ⟨p, hpp⟩ : ∃ p, probe K n m = p := ⟨_, rfl⟩
          rw [hpp] at hp cp hcl
          clear hpp
          have HCL := hid hcl
          clear hcl
          have hlt7' : (m : Int) < 7 := by omega
          have hidx : ((p : Int) / 64) < (n : Int) := by omega
          have cG := hst.rowG.cell (i := p / 64) (by omega)
          have zG := hst.rowG.frozen (p / 64)
          go_wp2_with (refine wpList_load_row rfl 23 _ rfl w.heap.size rfl 23 ks (0, 0) _ ?hk Try.underlying23 rfl hl23 ?_)
          case hk => exact (Below.heap_setCell _ _ _ _ g2).trans hst.key
          rw [andNot_bit (E (p / 64)) (p % 64) (HEL.out (p / 64) (by omega)) (Nat.mod_lt _ (by omega))]
          have hst7' := hst.set g0 g1 g2 g3 (p / 64) (E (p / 64) &&& (18446744073709551615 - 2 ^ (p % 64)))
          have hce : (fun j => if j = p / 64 then E (p / 64) &&& (18446744073709551615 - 2 ^ (p % 64)) else E j) = clearBit E p := by
            funext j
            unfold clearBit
            by_cases e : j = p / 64
            · rw [if_pos e, if_pos e, e]
            · rw [if_neg e, if_neg e]
          rw [hce] at hst7'
          clear hce
          have hclt : ∀ i, i < n → clearBit E p i < 18446744073709551616 := by
            intro i hi
            unfold clearBit
            split
            · exact clear_lt _ _ (HEL.out i hi)
            · exact HEL.out i hi
          refine (has_at G n (clearBit E p) ks K false _ HK.out h1 h2 hst7'.rowG hclt HCL.out).mono ?_
          rintro e W7 ⟨rfl, b7⟩
          have hst7 := hst7'.below b7
          have c7 := hst7.rowG.cell (i := p / 64) (by omega)
          have z7 := hst7.rowG.frozen (p / 64)
          have hst8' := hst7.set g0 g1 g2 g3 (p / 64) (E (p / 64))
          have hst8 := hid (hst8'.congr (E' := E) (fun i _ => by
            unfold clearBit
            by_cases e : i = p / 64
            · rw [if_pos e, e]
            · rw [if_neg e, if_neg e]))
          clear hst7 hst8' hst7' hclt cG zG cp b7 hst
          go_wp2
          go_roundw
          case rel => exact ⟨m + 1, by omega, by go_num, hst8.out⟩
          case measure => simp [intOf]; omega
        · go_wp2
          go_ret
          exact ⟨rfl, hst.bel⟩
end Go.Proofs.Qxb6630360a.Own
