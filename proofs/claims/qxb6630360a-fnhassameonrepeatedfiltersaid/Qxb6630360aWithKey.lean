/-
  zzWithKey at this dump: a copy of the words with seven bits set.
-/
import Derived.Test.Qxb6630360aProbeBits
import Derived.Lib.Builder
set_option linter.unusedSimpArgs false
namespace Go.Proofs.Qxb6630360a.Own
open Go.RowKit

def setBit (G : Nat → Nat) (p : Nat) : Nat → Nat := fun i => if i = p / 64 then G i ||| 2 ^ (p % 64) else G i
def withK (F P : Nat → Nat) : Nat → Nat → Nat
  | 0 => F
  | k + 1 => setBit (withK F P k) (P k)

theorem or_bit (x j : Nat) (hx : x < 18446744073709551616) (hj : j < 64) : bits .or .u64 (x : Int) (IntKind.u64.wrap (2 ^ j)) = ((x ||| 2 ^ j : Nat) : Int) := by
  rw [wrap_bit j hj, u64_or_nat x (2 ^ j) hx (pow_lt j hj)]
theorem or_lt (x j : Nat) (hx : x < 18446744073709551616) (hj : j < 64) : x ||| 2 ^ j < 18446744073709551616 :=
  Nat.or_lt_two_pow (n := 64) hx (pow_lt j hj)
theorem setBit_lt (G : Nat → Nat) (p i : Nat) (h : G i < 18446744073709551616) : setBit G p i < 18446744073709551616 := by
  unfold setBit
  split
  · exact or_lt _ _ h (Nat.mod_lt _ (by omega))
  · exact h
theorem withK_lt (F P : Nat → Nat) (i : Nat) (h : F i < 18446744073709551616) : ∀ k, withK F P k i < 18446744073709551616
  | 0 => h
  | k + 1 => setBit_lt _ _ _ (withK_lt F P i h k)

theorem info25 : (Try.prog.info? 25).map (fun i => (i.zero, i.size, i.bytes)) = some (some (.int .u64 0), 1, 8) := by kernel_rfl
theorem make22 (n : Nat) (hn : n ≤ 1048576) (w : World) : (Instr.makeSlice 22 (.int .i64 (n : Int)) (.int .i64 (n : Int))).run Try.prog w = .ok (.slice (some ⟨w.heap.size, 0, none⟩) n n) (w.alloc (.cells (madeCells #[.int .u64 0] n) 25)) :=
  run_make_row' 22 25 (.int .u64 0) 8 Try.underlying22 info25 rfl .i64 .i64 n (by omega) (by omega) w

/-- the array of probes, as cells -/
def cellsP (P : Nat → Nat) : Array Value := #[.int .u64 (P 0 : Nat), .int .u64 (P 1 : Nat), .int .u64 (P 2 : Nat), .int .u64 (P 3 : Nat), .int .u64 (P 4 : Nat), .int .u64 (P 5 : Nat), .int .u64 (P 6 : Nat)]
theorem cellsP_get (P : Nat → Nat) (k : Nat) (hk : k < 7) : (cellsP P)[k]? = some (.int .u64 (P k : Nat)) := by
  have h : k = 0 ∨ k = 1 ∨ k = 2 ∨ k = 3 ∨ k = 4 ∨ k = 5 ∨ k = 6 := by omega
  rcases h with rfl | rfl | rfl | rfl | rfl | rfl | rfl
  all_goals rfl

set_option maxHeartbeats 1000000 in
theorem withKey_any (b off n cap : Nat) (F P : Nat → Nat) (w : World) (h1 : 1 ≤ n) (h2 : n ≤ 131072) (hb : b < w.heap.size) (hF : WordsAt w b off n F) (hP : ∀ i, i < 7 → P i < n * 64) :
    Calls Try.prog 7 #[.slice (some ⟨b, off, none⟩) n cap, .agg #[.int .u64 (P 0 : Nat), .int .u64 (P 1 : Nat), .int .u64 (P 2 : Nat), .int .u64 (P 3 : Nat), .int .u64 (P 4 : Nat), .int .u64 (P 5 : Nat), .int .u64 (P 6 : Nat)]] w fun e w' =>
      e = .returned (.slice (some ⟨w.heap.size + 1, 0, none⟩) n n) ∧ w'.rowIs (w.heap.size + 1) 25 n (fun i => .int .u64 (withK F P 7 i : Nat)) ∧ Below w.heap.size w w' := by
  have HF := hid hF
  have HP := hid hP
  have hmk := make22 n (by omega)
  clear hF hP
  go_enter Try.func7, Try.ntmps7
  go_wp2
  clear hmk
  go_loopw [6] (fun i wr => ∃ (k : Nat) (f : Nat → Value), k ≤ n ∧ i = .int .i64 k ∧ wr.rowIs (w.heap.size + 1) 25 n f ∧ (∀ j, j < k → f j = .int .u64 (F j : Nat)) ∧ Below (w.heap.size + 1) (w.alloc (.cells (cellsP P) 26)) wr) (fun i _ => n - (intOf i).toNat)
  case atStart =>
    refine ⟨0, fun _ => .int .u64 0, Nat.zero_le _, rfl, ?_, fun j hj => absurd hj (Nat.not_lt_zero _), (Below.refl _ _).alloc (by simp) _⟩
    have h := World.rowIs_made (w.alloc (.cells (cellsP P) 26)) (.int .u64 0) n 25
    have hs : (w.alloc (.cells (cellsP P) 26)).heap.size = w.heap.size + 1 := by simp
    rw [hs] at h
    exact h
  case round =>
    obtain ⟨k, f, hk, rfl, hrow, hf0, hbw⟩ := hrel
    have hf := hid hf0
    clear hf0
    by_cases hlt : k < n
    · have hbe : Below w.heap.size w wr := ((Below.refl _ w).alloc (Nat.le_refl _) _).trans (hbw.mono (by omega))
      have c0 : wr.cell? ⟨b, off + k, none⟩ = some (.int .u64 (F k : Nat)) := (hbe.cell (p := ⟨b, off + k, none⟩) hb).trans (HF.out.1 k hlt)
      have d0 := hrow.cell (i := k) hlt
      have z0 := hrow.frozen k
      go_wp2
      go_roundw
      case rel =>
        refine ⟨k + 1, _, by omega, by go_num, hrow.set k _, fun j hj => ?_, hbw.setCell (Nat.le_refl _) _⟩
        by_cases e : j = k
        · subst e; simp
        · simp only [if_neg e]
          exact hf.out j (by omega)
      case measure => simp [intOf]; omega
    · have hrow0 : wr.rowIs (w.heap.size + 1) 25 n (fun i => .int .u64 (withK F P 0 i : Nat)) := hrow.congr (fun i hi => hf.out i (by omega))
      clear hrow
      go_wp2
      go_loopw [7] (fun i wr => ∃ (k : Nat), k ≤ 7 ∧ i = .int .i64 k ∧ wr.rowIs (w.heap.size + 1) 25 n (fun i => .int .u64 (withK F P k i : Nat)) ∧ Below (w.heap.size + 1) (w.alloc (.cells (cellsP P) 26)) wr) (fun i _ => 7 - (intOf i).toNat)
      case atStart => exact ⟨0, Nat.zero_le _, rfl, hrow0, hbw⟩
      case round =>
        clear hrow0 hbw
        obtain ⟨m, hm, rfl, hrow, hbw⟩ := hrel
        by_cases hlt2 : m < 7
        · have hp := HP.out m hlt2
          have c0 : wr.cell? ⟨w.heap.size, m, none⟩ = some (.int .u64 (P m : Nat)) := by
            rw [hbw.cell (p := ⟨w.heap.size, m, none⟩) (Nat.lt_succ_self _)]
            rw [← cellsP_get P m hlt2]; simp
          obtain ⟨p, hpp⟩ : ∃ p, P m = p := ⟨_, rfl⟩
          rw [hpp] at hp c0
          have HPP := hid hpp
          clear hpp
          have d0 := hrow.cell (i := p / 64) (by omega)
          have z0 := hrow.frozen (p / 64)
          have hm' : (m : Int) < 7 := by omega
          have hidx : ((p : Int) / 64) < (n : Int) := by omega
          go_wp2
          go_region
          clear d0 z0 c0
          go_wp2
          go_roundw
          case rel =>
            refine ⟨m + 1, by omega, by go_num, ?_, (hbw.setCell (Nat.le_refl _) _).drew⟩
            refine ((hrow.set (p / 64) _).drew).congr (fun i hi => ?_)
            rw [or_bit _ _ (withK_lt F P (p / 64) (HF.out.2 _ (by omega)) m) (Nat.mod_lt _ (by omega))]
            show _ = Value.int .u64 ((setBit (withK F P m) (P m) i : Nat) : Int)
            rw [HPP.out]
            unfold setBit
            by_cases e : i = p / 64
            · rw [if_pos e, if_pos e, e]
            · rw [if_neg e, if_neg e]
          case measure => simp [intOf]; omega
        · have hm7 : m = 7 := by omega
          subst hm7
          have hB : Below w.heap.size w wr := ((Below.refl _ w).alloc (Nat.le_refl _) _).trans (hbw.mono (by omega))
          go_wp2
          go_ret
          exact ⟨rfl, hrow, hB⟩
end Go.Proofs.Qxb6630360a.Own
