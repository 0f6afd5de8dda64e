/-
  zzProbeBits at this dump: the same seven numbers.
-/
import Derived.Test.Qxb6630360aHas
set_option linter.unusedSimpArgs false
namespace Go.Proofs.Qxb6630360a.Own
open Go.RowKit

theorem wrapN (x : Nat) (h : x < 18446744073709551616) : IntKind.u64.wrap ((x : Nat) : Int) = (x : Nat) := by rw [IntKind.wrap_u64]; omega
theorem or_val (a b c d : UInt8) :
    bits .or .u64 (bits .or .u64 (bits .or .u64 (IntKind.u64.wrap ((a.toNat : Nat) : Int)) (IntKind.u64.wrap (IntKind.u64.wrap ((b.toNat : Nat) : Int) * 256))) (IntKind.u64.wrap (IntKind.u64.wrap ((c.toNat : Nat) : Int) * 65536))) (IntKind.u64.wrap (IntKind.u64.wrap ((d.toNat : Nat) : Int) * 16777216)) = ((Lib.leNat [a, b, c, d] : Nat) : Int) := by
  have h1 := UInt8.toNat_lt a
  have h2 := UInt8.toNat_lt b
  have h3 := UInt8.toNat_lt c
  have h4 := UInt8.toNat_lt d
  simp only [Lib.leNat]
  generalize a.toNat = x at h1 ⊢
  generalize b.toNat = y at h2 ⊢
  generalize c.toNat = z at h3 ⊢
  generalize d.toNat = u at h4 ⊢
  have e2 : ((y : Nat) : Int) * 256 = ((y * 256 : Nat) : Int) := by omega
  have e3 : ((z : Nat) : Int) * 65536 = ((z * 65536 : Nat) : Int) := by omega
  have e4 : ((u : Nat) : Int) * 16777216 = ((u * 16777216 : Nat) : Int) := by omega
  rw [wrapN x (by omega), wrapN y (by omega), wrapN z (by omega), wrapN u (by omega), e2, e3, e4, wrapN (y * 256) (by omega), wrapN (z * 65536) (by omega), wrapN (u * 16777216) (by omega)]
  have j1 : x ||| y * 256 = y * 256 + x := by rw [Nat.or_comm]; exact nat_join 8 _ _ (by omega) (by omega)
  have j2 : (y * 256 + x) ||| z * 65536 = z * 65536 + (y * 256 + x) := by rw [Nat.or_comm]; exact nat_join 16 _ _ (by omega) (by omega)
  have j3 : (z * 65536 + (y * 256 + x)) ||| u * 16777216 = u * 16777216 + (z * 65536 + (y * 256 + x)) := by rw [Nat.or_comm]; exact nat_join 24 _ _ (by omega) (by omega)
  rw [u64_or_nat x (y * 256) (by omega) (by omega), j1, u64_or_nat _ _ (by omega) (by omega), j2, u64_or_nat _ _ (by omega) (by omega), j3]
  omega

theorem zeros7_get : ∀ i, i < zeros7.size → zeros7[i]? = some (.int .u64 0) := by
  intro i hi
  have hi' : i < 7 := hi
  have h : i = 0 ∨ i = 1 ∨ i = 2 ∨ i = 3 ∨ i = 4 ∨ i = 5 ∨ i = 6 := by omega
  rcases h with rfl | rfl | rfl | rfl | rfl | rfl | rfl
  all_goals rfl
theorem probe_val2 (K : Nat → UInt8) (n k : Nat) : ((Lib.leNat [K (4 + 4 * k), K (4 + 4 * k + 1), K (4 + 4 * k + 2), K (4 + 4 * k + 3)] : Nat) : Int) % ((n : Int) * 64) = ((probe K n k : Nat) : Int) := by
  show ((grp K k : Nat) : Int) % ((n : Int) * 64) = _
  unfold probe
  rw [Int.natCast_emod, Int.natCast_mul]
  rfl

set_option maxHeartbeats 1000000 in
theorem probeBits_any (n : Nat) (ks : Array Value) (K : Nat → UInt8) (w : World) (hks : ∀ j, j < 32 → ks[j]? = some (.int .u8 ((K j).toNat : Nat))) (h1 : 1 ≤ n) (h2 : n ≤ 131072) :
    Calls Try.prog 6 #[.agg ks, .int .i64 n] w fun e w' => e = .returned (.agg #[.int .u64 (probe K n 0 : Nat), .int .u64 (probe K n 1 : Nat), .int .u64 (probe K n 2 : Nat), .int .u64 (probe K n 3 : Nat), .int .u64 (probe K n 4 : Nat), .int .u64 (probe K n 5 : Nat), .int .u64 (probe K n 6 : Nat)]) ∧ Below w.heap.size w w' := by
  have hka : KeyAt (w.alloc (.cells ks 23)) w.heap.size K := by
    intro j hj
    rw [← hks j hj]
    simp
  have HK := hid hka
  clear hka hks
  go_enter Try.func6, Try.ntmps6
  go_wp2
  go_loopw [7] (fun i wr => ∃ (k : Nat) (f : Nat → Value), k ≤ 7 ∧ i = .int .i64 k ∧ wr.rowIs (w.heap.size + 2) 26 7 f ∧ (∀ j, j < k → f j = .int .u64 (probe K n j : Nat)) ∧ Below (w.heap.size + 2) ((w.alloc (.cells ks 23)).alloc (.cells zeros7 26)) wr) (fun i _ => 7 - (intOf i).toNat)
  case atStart =>
    refine ⟨0, fun _ => .int .u64 0, Nat.zero_le _, rfl, ?_, fun j hj => absurd hj (Nat.not_lt_zero _), (Below.refl _ _).alloc (by simp) _⟩
    have h := World.rowIs_alloc ((w.alloc (.cells ks 23)).alloc (.cells zeros7 26)) zeros7 26 (fun _ => .int .u64 0) zeros7_get
    have hs : ((w.alloc (.cells ks 23)).alloc (.cells zeros7 26)).heap.size = w.heap.size + 2 := by simp
    rw [hs] at h
    exact h
  case round =>
    obtain ⟨k, f, hk, rfl, hrow, hf0, hbw⟩ := hrel
    have hf := hid hf0
    clear hf0
    by_cases hlt : k < 7
    · have hKw : KeyAt wr w.heap.size K := fun j hj => by rw [hbw.cell (p := ⟨w.heap.size, j, none⟩) (by show w.heap.size < w.heap.size + 2; omega)]; rw [← HK.out j hj]; exact World.cell?_of_block (Lib.alloc_old _ _ _ (by simp))
      have c0 := hKw (4 + 4 * k) (by omega)
      have c1 := hKw (4 + 4 * k + 1) (by omega)
      have c2 := hKw (4 + 4 * k + 2) (by omega)
      have c3 := hKw (4 + 4 * k + 3) (by omega)
      clear hKw
      have d0 := hrow.cell (i := k) hlt
      have z0 := hrow.frozen k
      go_wp2
      go_quiet (fail)
      rw [or_val]
      have hm0 : ((n : Int) * 64 == 0) = false := beq_eq_false_iff_ne.2 (by omega)
      clear c0 c1 c2 c3
      go_wp2
      have hrow1 : (wr.drewN nq).rowIs (w.heap.size + 2) 26 7 f := hrow.of_block rfl
      have hbw1 := below_drewN hbw nq
      go_roundw
      case rel =>
        refine ⟨k + 1, _, by omega, by go_num, hrow1.set k _, fun j hj => ?_, hbw1.setCell (Nat.le_refl _) _⟩
        by_cases e : j = k
        · subst e
          simp only [if_true]
          rw [probe_val2]
        · simp only [if_neg e]
          exact hf.out j (by omega)
      case measure => simp [intOf]; omega
    · have hk7 : k = 7 := by omega
      subst hk7
      have p0 := hrow.cell (i := 0) (by omega)
      have p1 := hrow.cell (i := 1) (by omega)
      have p2 := hrow.cell (i := 2) (by omega)
      have p3 := hrow.cell (i := 3) (by omega)
      have p4 := hrow.cell (i := 4) (by omega)
      have p5 := hrow.cell (i := 5) (by omega)
      have p6 := hrow.cell (i := 6) (by omega)
      rw [hf.out _ (by omega)] at p0 p1 p2 p3 p4 p5 p6
      have r0 : ∀ j, wr.cell? ⟨w.heap.size + 1, j, none⟩ = ((w.alloc (.cells ks 23)).alloc (.cells zeros7 26)).cell? ⟨w.heap.size + 1, j, none⟩ := fun j => hbw.cell (p := ⟨w.heap.size + 1, j, none⟩) (Nat.lt_succ_self _)
      have z0 : ∀ j, wr.frozen? ⟨w.heap.size + 1, j, none⟩ = false := fun j => (hbw.frozen (p := ⟨w.heap.size + 1, j, none⟩) (Nat.lt_succ_self _)).trans (by simp)
      have q0 : wr.cell? ⟨w.heap.size + 1, 0, none⟩ = some (.int .u64 0) := (r0 0).trans (by simp [zeros7])
      have q1 : wr.cell? ⟨w.heap.size + 1, 1, none⟩ = some (.int .u64 0) := (r0 1).trans (by simp [zeros7])
      have q2 : wr.cell? ⟨w.heap.size + 1, 2, none⟩ = some (.int .u64 0) := (r0 2).trans (by simp [zeros7])
      have q3 : wr.cell? ⟨w.heap.size + 1, 3, none⟩ = some (.int .u64 0) := (r0 3).trans (by simp [zeros7])
      have q4 : wr.cell? ⟨w.heap.size + 1, 4, none⟩ = some (.int .u64 0) := (r0 4).trans (by simp [zeros7])
      have q5 : wr.cell? ⟨w.heap.size + 1, 5, none⟩ = some (.int .u64 0) := (r0 5).trans (by simp [zeros7])
      have q6 : wr.cell? ⟨w.heap.size + 1, 6, none⟩ = some (.int .u64 0) := (r0 6).trans (by simp [zeros7])
      clear r0
      go_wp2
      refine bodyPost_ret (v := .agg #[.int .u64 (probe K n 0 : Nat), .int .u64 (probe K n 1 : Nat), .int .u64 (probe K n 2 : Nat), .int .u64 (probe K n 3 : Nat), .int .u64 (probe K n 4 : Nat), .int .u64 (probe K n 5 : Nat), .int .u64 (probe K n 6 : Nat)]) (by simp [results, Try.results6, go_sem, q0, q1, q2, q3, q4, q5, q6]) rfl ⟨rfl, ?_⟩
      have hB : Below w.heap.size w wr := (((Below.refl _ w).alloc (Nat.le_refl _) _).alloc (by simp) _).trans (hbw.mono (by omega))
      exact ((((((hB.setCell (Nat.le_succ _) _).setCell (Nat.le_succ _) _).setCell (Nat.le_succ _) _).setCell (Nat.le_succ _) _).setCell (Nat.le_succ _) _).setCell (Nat.le_succ _) _).setCell (Nat.le_succ _) _
end Go.Proofs.Qxb6630360a.Own
