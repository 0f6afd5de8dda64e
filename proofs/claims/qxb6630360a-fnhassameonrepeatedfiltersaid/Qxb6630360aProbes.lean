/-
  (bloom.Filter).probes and Has at this dump.
-/
import Derived.Test.Qxb6630360aShelf
import Derived.Test.Qxb6630360aRows
import Derived.WalkKit
import Derived.ProofKit
import Derived.WalkLawsBesides
import Derived.Outline
import Derived.Deep.LoopGhost
import Derived.Deep.OwnRows
import Derived.Deep.RegionWith
import Derived.BigRegion
import Derived.BigQuiet
import Derived.Deep.QuietTactic
import Derived.Laws.BitsAllLaws
set_option linter.unusedSimpArgs false
namespace Go.Proofs.Qxb6630360a.Own
open Go.RowKit

theorem hid {p : Prop} (h : p) : Hid p := h

/-- the key's bytes lie in block kb -/
def KeyAt (w : World) (kb : Nat) (K : Nat → UInt8) : Prop := ∀ j, j < 32 → w.cell? ⟨kb, j, none⟩ = some (.int .u8 ((K j).toNat : Nat))
/-- the number that group i of the key's bytes holds -/
def grp (K : Nat → UInt8) (i : Nat) : Nat := Lib.leNat [K (4 + 4 * i), K (4 + 4 * i + 1), K (4 + 4 * i + 2), K (4 + 4 * i + 3)]
def probe (K : Nat → UInt8) (n i : Nat) : Nat := grp K i % (n * 64)

theorem len23 : Try.prog.arrayLen 23 = 32 := by kernel_rfl
theorem elem23 : Try.prog.elem 23 = 5 := by kernel_rfl
theorem arr23 : Try.prog.underlying 23 = some (.array (Try.prog.arrayLen 23) (Try.prog.elem 23)) := by kernel_rfl
theorem slice_key (kb k : Nat) (hk : k < 7) (w : World) : (Instr.sliceAt 23 (.pointer (some ⟨kb, 0, none⟩)) (some (.int .i64 (IntKind.i64.wrap (4 + IntKind.i64.wrap (4 * (k : Int)))))) none none).run Try.prog w = .ok (.slice (some ⟨kb, 4 + 4 * k, none⟩) (32 - (4 + 4 * k)) (32 - (4 + 4 * k))) w := by
  have e : IntKind.i64.wrap (4 + IntKind.i64.wrap (4 * (k : Int))) = 4 + 4 * (k : Int) := by rw [IntKind.wrap_i64, IntKind.wrap_i64]; omega
  rw [e]
  have h := run_sliceAt_array_l (P := Try.prog) w 23 ⟨kb, 0, none⟩ arr23 .i64 (4 + 4 * (k : Int)) (by omega) (by rw [len23]; omega)
  rw [h, elem23, Try.sizeOf5, len23]
  have e2 : (4 + 4 * (k : Int)).toNat = 4 + 4 * k := by omega
  simp only [Result.andThen, slicedAt, e2]
  rw [if_neg (by omega)]
  simp [Addr.add]

theorem leNat4_lt (a b c d : UInt8) : Lib.leNat [a, b, c, d] < 4294967296 := by
  have h1 := UInt8.toNat_lt a
  have h2 := UInt8.toNat_lt b
  have h3 := UInt8.toNat_lt c
  have h4 := UInt8.toNat_lt d
  simp only [Lib.leNat]
  omega
theorem grp_lt (K : Nat → UInt8) (i : Nat) : grp K i < 4294967296 := leNat4_lt _ _ _ _
theorem probe_val (K : Nat → UInt8) (n k : Nat) : (IntKind.u64.wrap ((Lib.leNat [K (4 + 4 * k), K (4 + 4 * k + 1), K (4 + 4 * k + 2), K (4 + 4 * k + 3)] : Nat) : Int)).tmod ((n : Int) * 64) = ((probe K n k : Nat) : Int) := by
  have h := grp_lt K k
  have e : IntKind.u64.wrap ((grp K k : Nat) : Int) = ((grp K k : Nat) : Int) := by rw [IntKind.wrap_u64]; omega
  show (IntKind.u64.wrap ((grp K k : Nat) : Int)).tmod ((n : Int) * 64) = _
  rw [e, Int.tmod_eq_emod_of_nonneg (by omega)]
  unfold probe
  rw [Int.natCast_emod, Int.natCast_mul]
  rfl
/-- the seven zeros that a new array of probes holds -/
def zeros7 : Array Value := #[.int .u64 0, .int .u64 0, .int .u64 0, .int .u64 0, .int .u64 0, .int .u64 0, .int .u64 0]

set_option maxHeartbeats 1000000 in
theorem probes_any (b off n cap kb : Nat) (K : Nat → UInt8) (w : World) (h1 : 1 ≤ n) (h2 : n ≤ 131072) (hkb : kb < w.heap.size) (hK : KeyAt w kb K) :
    Calls Try.prog 10 #[.slice (some ⟨b, off, none⟩) n cap, .pointer (some ⟨kb, 0, none⟩)] w fun e w' => e = .returned (.agg #[.int .u64 (probe K n 0 : Nat), .int .u64 (probe K n 1 : Nat), .int .u64 (probe K n 2 : Nat), .int .u64 (probe K n 3 : Nat), .int .u64 (probe K n 4 : Nat), .int .u64 (probe K n 5 : Nat), .int .u64 (probe K n 6 : Nat)]) ∧ Below w.heap.size w w' := by
  have HK := hid hK
  clear hK
  go_enter Try.func10, Try.ntmps10
  go_wp2
  go_loopw [12] (fun i wr => ∃ (k : Nat) (f : Nat → Value), k ≤ 7 ∧ i = .int .i64 k ∧ wr.rowIs (w.heap.size + 1) 26 7 f ∧ (∀ j, j < k → f j = .int .u64 (probe K n j : Nat)) ∧ Below (w.heap.size + 1) (w.alloc (.cells #[.int .u64 0, .int .u64 0, .int .u64 0, .int .u64 0, .int .u64 0, .int .u64 0, .int .u64 0] 26)) wr) (fun i _ => 7 - (intOf i).toNat)
  case atStart =>
    refine ⟨0, fun _ => .int .u64 0, Nat.zero_le _, rfl, ?_, fun j hj => absurd hj (Nat.not_lt_zero _), (Below.refl _ _).alloc (by simp) _⟩
    have h := World.rowIs_alloc (w.alloc (.cells zeros7 26)) zeros7 26 (fun _ => .int .u64 0) (by
      intro i hi
      have hi' : i < 7 := hi
      match i, hi' with
      | 0, _ => rfl
      | 1, _ => rfl
      | 2, _ => rfl
      | 3, _ => rfl
      | 4, _ => rfl
      | 5, _ => rfl
      | 6, _ => rfl)
    have hs : (w.alloc (.cells zeros7 26)).heap.size = w.heap.size + 1 := by simp
    rw [hs] at h
    exact h
  case round =>
    obtain ⟨k, f, hk, rfl, hrow, hf0, hbw⟩ := hrel
    have hf := hid hf0
    clear hf0
    by_cases hlt : k < 7
    · have hbe : Below w.heap.size w wr := ((Below.refl _ w).alloc (Nat.le_refl _) _).trans (hbw.mono (by omega))
      have hKw : KeyAt wr kb K := fun j hj => by rw [hbe.cell (p := ⟨kb, j, none⟩) hkb]; exact HK.out j hj
      have c0 := hKw (4 + 4 * k) (by omega)
      have c1 := hKw (4 + 4 * k + 1) (by omega)
      have c2 := hKw (4 + 4 * k + 2) (by omega)
      have c3 := hKw (4 + 4 * k + 3) (by omega)
      clear hKw
      have d0 := hrow.cell (i := k) hlt
      have z0 := hrow.frozen k
      have hsl : ∀ wx : World, (Instr.sliceAt 23 (.pointer (some ⟨kb, 0, none⟩)) (some (.int .i64 (IntKind.i64.wrap (4 + IntKind.i64.wrap (4 * (k : Int)))))) none none).run Try.prog wx = .ok (.slice (some ⟨kb, 4 + 4 * k, none⟩) (32 - (4 + 4 * k)) (32 - (4 + 4 * k))) wx := fun wx => slice_key kb k hlt wx
      go_wp2
      have hm0 : ((n : Int) * 64 == 0) = false := beq_eq_false_iff_ne.2 (by omega)
      have hsz : w.heap.size + 1 < wr.heap.size := hrow.lt
      go_region_with (go_at_call 11; refine (Try.binary_LE_Uint32 kb (4 + 4 * k) _ _ (K (4 + 4 * k)) (K (4 + 4 * k + 1)) (K (4 + 4 * k + 2)) (K (4 + 4 * k + 3)) _ (by omega) (by exact c0) (by exact c1) (by exact c2) (by exact c3)).mono ?_; rintro e w1 ⟨rfl, hb1⟩; have d1 : w1.cell? ⟨w.heap.size + 1, k, none⟩ = some (f k) := (hb1.cell (p := ⟨w.heap.size + 1, k, none⟩) hsz).trans d0; have z1 : w1.frozen? ⟨w.heap.size + 1, k, none⟩ = false := (hb1.frozen (p := ⟨w.heap.size + 1, k, none⟩) hsz).trans z0)
      have hb0 : Below wr.heap.size wr w1 := ⟨hb1.os, hb1.tape, hb1.output, hb1.size, hb1.block⟩
      have hrow1 : w1.rowIs (w.heap.size + 1) 26 7 f := hrow.of_block (hb0.block _ hsz)
      have hbw1 := hbw.trans (hb0.mono (Nat.le_of_lt hsz))
      clear d0 z0 d1 z1 c0 c1 c2 c3 hsl hrow hb1 hb0
      go_wp2
      go_roundw
      case rel =>
        refine ⟨k + 1, _, by omega, by go_num, hrow1.set k _, fun j hj => ?_, hbw1.setCell (Nat.le_refl _) _⟩
        by_cases e : j = k
        · subst e
          simp only [if_true]
          rw [probe_val]
        · simp only [if_neg e]
          exact hf.out j (by omega)
      case measure => simp [intOf]; omega
    · have hk7 : k = 7 := by omega
      subst hk7
      have p0 := hrow.cell (i := 0) (by omega)
      have p1 := hrow.cell (i := 1) (by omega)
      have p2 := hrow.cell (i := 2) (by omega)
      have p3 := hrow.cell (i := 3) (by omega)
      have p4 := hrow.cell (i := 4) (by omega)
      have p5 := hrow.cell (i := 5) (by omega)
      have p6 := hrow.cell (i := 6) (by omega)
      rw [hf.out _ (by omega)] at p0 p1 p2 p3 p4 p5 p6
      have r0 : ∀ j, wr.cell? ⟨w.heap.size, j, none⟩ = (w.alloc (.cells zeros7 26)).cell? ⟨w.heap.size, j, none⟩ := fun j => hbw.cell (p := ⟨w.heap.size, j, none⟩) (Nat.lt_succ_self _)
      have z0 : ∀ j, wr.frozen? ⟨w.heap.size, j, none⟩ = false := fun j => (hbw.frozen (p := ⟨w.heap.size, j, none⟩) (Nat.lt_succ_self _)).trans (by simp)
      have q0 : wr.cell? ⟨w.heap.size, 0, none⟩ = some (.int .u64 0) := (r0 0).trans (by simp [zeros7])
      have q1 : wr.cell? ⟨w.heap.size, 1, none⟩ = some (.int .u64 0) := (r0 1).trans (by simp [zeros7])
      have q2 : wr.cell? ⟨w.heap.size, 2, none⟩ = some (.int .u64 0) := (r0 2).trans (by simp [zeros7])
      have q3 : wr.cell? ⟨w.heap.size, 3, none⟩ = some (.int .u64 0) := (r0 3).trans (by simp [zeros7])
      have q4 : wr.cell? ⟨w.heap.size, 4, none⟩ = some (.int .u64 0) := (r0 4).trans (by simp [zeros7])
      have q5 : wr.cell? ⟨w.heap.size, 5, none⟩ = some (.int .u64 0) := (r0 5).trans (by simp [zeros7])
      have q6 : wr.cell? ⟨w.heap.size, 6, none⟩ = some (.int .u64 0) := (r0 6).trans (by simp [zeros7])
      clear r0
      go_wp2
      refine bodyPost_ret (v := .agg #[.int .u64 (probe K n 0 : Nat), .int .u64 (probe K n 1 : Nat), .int .u64 (probe K n 2 : Nat), .int .u64 (probe K n 3 : Nat), .int .u64 (probe K n 4 : Nat), .int .u64 (probe K n 5 : Nat), .int .u64 (probe K n 6 : Nat)]) (by simp [results, Try.results10, go_sem, q0, q1, q2, q3, q4, q5, q6]) rfl ⟨rfl, ?_⟩
      exact (((((((((Below.refl _ w).alloc (Nat.le_refl _) _).trans (hbw.mono (by omega))).setCell (Nat.le_refl _) _).setCell (Nat.le_refl _) _).setCell (Nat.le_refl _) _).setCell (Nat.le_refl _) _).setCell (Nat.le_refl _) _).setCell (Nat.le_refl _) _).setCell (Nat.le_refl _) _
end Go.Proofs.Qxb6630360a.Own
