/-
  zzb1ToParams: a copy of the conditions in new memory.
-/
import Derived.Test.Qxb6630326aReads
import Derived.Deep.OwnRows
import Derived.BigRegion
import Derived.WalkSpells
set_option linter.unusedSimpArgs false
namespace Go.Proofs.Qxb6630326a.Own
open Go.RowKit

theorem info35 : (Try.prog.info? 35).map (fun i => (i.zero, i.size, i.bytes)) = some (some (.agg #[.bool false, .string ⟨#[]⟩, .bool false, .string ⟨#[]⟩]), 4, 48) := by kernel_rfl
def zero4 : Array Value := (Value.agg #[.bool false, .string ⟨#[]⟩, .bool false, .string ⟨#[]⟩]).cells
def made4 (n : Nat) : Array Value := madeCells zero4 (n * 4)
theorem make26 (n : Nat) (hn : n ≤ 1048576) (w : World) : (Instr.makeSlice 26 (.int .i64 (n : Int)) (.int .i64 (n : Int))).run Try.prog w = .ok (.slice (some ⟨w.heap.size, 0, none⟩) n n) (w.alloc (.cells (made4 n) 35)) := by
  obtain ⟨i, hi, hz, hs, hb⟩ := info_parts info35
  have hr := run_make (P := Try.prog) w 26 35 i _ Try.underlying26 hi hz .i64 .i64 n n (by omega) (Int.le_refl _) (by rw [hb]; omega) (by omega)
  simp only [Int.toNat_natCast, hs] at hr
  exact hr

/-- The first k conditions of ps lie in the row of block B. -/
def Laid (w : World) (B n : Nat) (ps : List Pm) (k : Nat) : Prop :=
  ∃ f, w.rowIs B 35 (n * 4) f ∧ ∀ i (h : i < ps.length), i < k → f (i * 4) = .bool ps[i].neg ∧ f (i * 4 + 1) = .string ps[i].name ∧ f (i * 4 + 2) = .bool ps[i].hg ∧ f (i * 4 + 3) = .string ps[i].glob

theorem laid_start (w : World) (n : Nat) (ps : List Pm) : Laid (w.alloc (.cells (made4 n) 35)) w.heap.size n ps 0 := by
  have hs : (made4 n).size = n * 4 := size_madeCells _ _
  refine ⟨fun i => (made4 n).getD i (.bool false), ?_, fun i _ hi => absurd hi (Nat.not_lt_zero _)⟩
  rw [← hs]
  refine World.rowIs_alloc w (made4 n) 35 _ (fun i hi => ?_)
  rw [Array.getElem?_eq_getElem hi, Array.getD_eq_getD_getElem?, Array.getElem?_eq_getElem hi]
  rfl

theorem laid_step {w : World} {B n k : Nat} {ps : List Pm} (h : Laid w B n ps k) (hk : k < ps.length) (p : Pm) (hp : ps[k] = p) :
    Laid ((((w.setCell ⟨B, k * 4, none⟩ (.bool p.neg)).setCell ⟨B, k * 4 + 1, none⟩ (.string p.name)).setCell ⟨B, k * 4 + 2, none⟩ (.bool p.hg)).setCell ⟨B, k * 4 + 3, none⟩ (.string p.glob)).drew B n ps (k + 1) := by
  obtain ⟨f, hr, hf⟩ := h
  refine ⟨_, (((((hr.set (k * 4) (.bool p.neg)).set (k * 4 + 1) (.string p.name)).set (k * 4 + 2) (.bool p.hg)).set (k * 4 + 3) (.string p.glob)).drew), fun i hi hik => ?_⟩
  by_cases e : i = k
  · subst e
    rw [hp]
    simp
  · have h1 := hf i hi (by omega)
    have n0 : ∀ a c : Nat, a < 4 → c < 4 → i * 4 + a ≠ k * 4 + c := by intro a c ha hc; omega
    refine ⟨?_, ?_, ?_, ?_⟩
    · simp only [if_neg (show i * 4 ≠ k * 4 + 3 by omega), if_neg (show i * 4 ≠ k * 4 + 2 by omega), if_neg (show i * 4 ≠ k * 4 + 1 by omega), if_neg (show i * 4 ≠ k * 4 by omega)]; exact h1.1
    · simp only [if_neg (show i * 4 + 1 ≠ k * 4 + 3 by omega), if_neg (show i * 4 + 1 ≠ k * 4 + 2 by omega), if_neg (show i * 4 + 1 ≠ k * 4 + 1 by omega), if_neg (show i * 4 + 1 ≠ k * 4 by omega)]; exact h1.2.1
    · simp only [if_neg (show i * 4 + 2 ≠ k * 4 + 3 by omega), if_neg (show i * 4 + 2 ≠ k * 4 + 2 by omega), if_neg (show i * 4 + 2 ≠ k * 4 + 1 by omega), if_neg (show i * 4 + 2 ≠ k * 4 by omega)]; exact h1.2.2.1
    · simp only [if_neg (show i * 4 + 3 ≠ k * 4 + 3 by omega), if_neg (show i * 4 + 3 ≠ k * 4 + 2 by omega), if_neg (show i * 4 + 3 ≠ k * 4 + 1 by omega), if_neg (show i * 4 + 3 ≠ k * 4 by omega)]; exact h1.2.2.2

theorem laid_done {w : World} {B : Nat} {ps : List Pm} (h : Laid w B ps.length ps ps.length) : PsAt w B 0 ps ∧ B < w.heap.size := by
  obtain ⟨f, hr, hf⟩ := h
  refine ⟨fun i hi => ?_, hr.lt⟩
  obtain ⟨f0, f1, f2, f3⟩ := hf i hi hi
  simp only [Nat.zero_add]
  rw [hr.cell (i := i * 4) (by omega), hr.cell (i := i * 4 + 1) (by omega), hr.cell (i := i * 4 + 2) (by omega), hr.cell (i := i * 4 + 3) (by omega), f0, f1, f2, f3]
  exact ⟨rfl, rfl, rfl, rfl⟩

set_option maxHeartbeats 2000000 in
set_option maxRecDepth 100000 in
theorem to_some (ps : List Pm) (b off cap : Nat) (w : World) (hb : b < w.heap.size) (hps : PsAt w b off ps) (hn : ps.length ≤ 1048576) :
    Calls Try.prog 6 #[.slice (some ⟨b, off, none⟩) ps.length cap] w fun e w' => e = .returned (.slice (some ⟨w.heap.size, 0, none⟩) ps.length ps.length) ∧ PsAt w' w.heap.size 0 ps ∧ w.heap.size < w'.heap.size ∧ Below w.heap.size w w' := by
  have HP := hid hps
  clear hps
  have hmk := make26 ps.length hn
  have hnil := fun wx => Lib.run_eql_slice_nil (P := Try.prog) (w := wx) 22
  go_enter Try.func6, Try.ntmps6
  go_wp2
  clear hmk
  go_loopw [4] (fun i wr => ∃ k : Nat, k ≤ ps.length ∧ i = .int .i64 k ∧ Laid wr w.heap.size ps.length ps k ∧ Below w.heap.size w wr) (fun i _ => ps.length - (intOf i).toNat)
  case atStart => exact ⟨0, Nat.zero_le _, rfl, laid_start w ps.length ps, (Below.refl _ w).alloc (Nat.le_refl _) _⟩
  case round =>
    obtain ⟨k, hk, rfl, hL, hbw⟩ := hrel
    by_cases hlt : k < ps.length
    · have hlt' : (k : Int) < (ps.length : Int) := by omega
      have cc : ∀ j, wr.cell? ⟨b, j, none⟩ = w.cell? ⟨b, j, none⟩ := fun j => hbw.cell (p := ⟨b, j, none⟩) hb
      obtain ⟨c0, c1, c2, c3⟩ := HP.out k hlt
      rw [← cc] at c0 c1 c2 c3
      clear cc
      obtain ⟨p, hp⟩ : ∃ p, ps[k] = p := ⟨_, rfl⟩
      rw [hp] at c0 c1 c2 c3
      have hq := hid hp
      clear hp
      have HL := hid hL
      obtain ⟨f, hrow, _⟩ := hL
      have d0 := hrow.cell (i := k * 4) (by omega)
      have d1 := hrow.cell (i := k * 4 + 1) (by omega)
      have d2 := hrow.cell (i := k * 4 + 2) (by omega)
      have d3 := hrow.cell (i := k * 4 + 3) (by omega)
      have z0 := hrow.frozen (k * 4)
      have z1 := hrow.frozen (k * 4 + 1)
      have z2 := hrow.frozen (k * 4 + 2)
      have z3 := hrow.frozen (k * 4 + 3)
      go_wp2
      go_region
      clear d0 d1 d2 d3 z0 z1 z2 z3 c0 c1 c2 c3 hrow
      go_wp2
      go_roundw
      case rel => exact ⟨k + 1, by omega, by go_num, laid_step HL.out hlt p hq.out, ((((hbw.setCell (Nat.le_refl _) _).setCell (Nat.le_refl _) _).setCell (Nat.le_refl _) _).setCell (Nat.le_refl _) _).drew⟩
      case measure => simp [intOf]; omega
    · have hke : k = ps.length := by omega
      rw [hke] at hL
      have HL := hid hL
      clear hL hke
      go_wp2
      go_ret
      exact ⟨rfl, (laid_done HL.out).1, (laid_done HL.out).2, hbw⟩

theorem to_nil (cp : Nat) (w : World) : Calls Try.prog 6 #[.slice none 0 cp] w fun e w' => e = .returned (.slice none 0 0) ∧ w' = w := by
  have hnil := fun wx => Lib.run_eql_slice_nil (P := Try.prog) (w := wx) 22
  go_enter Try.func6, Try.ntmps6
  go_wp2
  go_ret
  exact ⟨rfl, rfl⟩

theorem to_empty (a : Addr) (cp : Nat) (w : World) : Calls Try.prog 6 #[.slice (some a) 0 cp] w fun e w' => e = .returned (.slice (some ⟨w.heap.size, 0, none⟩) 0 0) ∧ Below w.heap.size w w' := by
  have hmk : ∀ wx : World, (Instr.makeSlice 26 (.int .i64 0) (.int .i64 0)).run Try.prog wx = .ok (.slice (some ⟨wx.heap.size, 0, none⟩) 0 0) (wx.alloc (.cells (made4 0) 35)) := fun wx => make26 0 (by omega) wx
  have hnil := fun wx => Lib.run_eql_slice_nil (P := Try.prog) (w := wx) 22
  go_enter Try.func6, Try.ntmps6
  go_wp2
  go_loop [4] (fun i => i = .int .i64 0) (fun i => 0)
  case atStart => rfl
  case round =>
    subst hrel
    go_wp2
    go_ret
    exact ⟨rfl, (Below.refl _ w).alloc (Nat.le_refl _) _⟩

theorem to_none (ao : Option Addr) (cp : Nat) (w : World) : Calls Try.prog 6 #[.slice ao 0 cp] w fun e w' => ∃ ao', e = .returned (.slice ao' 0 0) ∧ Below w.heap.size w w' := by
  cases ao with
  | none =>
    refine (to_nil cp w).mono ?_
    rintro e w' ⟨rfl, rfl⟩
    exact ⟨_, rfl, Below.refl _ _⟩
  | some a =>
    refine (to_empty a cp w).mono ?_
    rintro e w' ⟨rfl, hb⟩
    exact ⟨_, rfl, hb⟩

theorem to_any (ps : List Pm) (v : Value) (w : World) (hps : ParamsAt w v ps) (hn : ps.length ≤ 1048576) :
    Calls Try.prog 6 #[v] w fun e w' => ∃ u, e = .returned u ∧ ParamsAt w' u ps ∧ Below w.heap.size w w' := by
  rcases hps with ⟨ao, cp, rfl, rfl⟩ | ⟨b, off, cap, rfl, h1, h2⟩
  · refine (to_none ao cp w).mono ?_
    rintro e w' ⟨ao', rfl, hb⟩
    exact ⟨_, rfl, Or.inl ⟨_, _, rfl, rfl⟩, hb⟩
  · refine (to_some ps b off cap w h1 h2 hn).mono ?_
    rintro e w' ⟨rfl, h3, h4, h5⟩
    exact ⟨_, rfl, Or.inr ⟨_, 0, _, rfl, h4, h3⟩, h5⟩
end Go.Proofs.Qxb6630326a.Own
