/-
  (rules.Rule).String AT THIS DUMP: it returns the rule's text.
-/
import Derived.Test.Qxb6630326aBuilder
import Derived.Test.Qxb6630326aText
import Derived.WalkKit
import Derived.ProofKit
import Derived.WalkLawsBesides
import Derived.Outline
import Derived.Deep.LoopGhost
set_option linter.unusedSimpArgs false
namespace Go.Proofs.Qxb6630326a.Own
open Go.RowKit

/-- The conditions lie in w from ⟨b, off⟩ on, four cells each. -/
def PsAt (w : World) (b off : Nat) (ps : List Pm) : Prop :=
  ∀ i (h : i < ps.length), w.cell? ⟨b, off + i * 4, none⟩ = some (.bool ps[i].neg) ∧ w.cell? ⟨b, off + i * 4 + 1, none⟩ = some (.string ps[i].name) ∧ w.cell? ⟨b, off + i * 4 + 2, none⟩ = some (.bool ps[i].hg) ∧ w.cell? ⟨b, off + i * 4 + 3, none⟩ = some (.string ps[i].glob)

theorem ret_str {l m : List UInt8} (h : l = m) : Ending.returned (.string ⟨l.toArray⟩) = .returned (.string ⟨m.toArray⟩) := by rw [h]
theorem hid {p : Prop} (h : p) : Hid p := h
theorem alloc_at (w : World) (o : Obj) : (w.alloc o).heap[w.heap.size]? = some o := heap_alloc_new w o

/-- the loop variable's box -/
def Box (W : World) (q : Nat) (p : Pm) : Prop := W.heap[q]? = some (.cells #[.bool p.neg, .string p.name, .bool p.hg, .string p.glob] 35 (0, 0))
theorem Box.cells {W : World} {q : Nat} {p : Pm} (h : Box W q p) : W.cell? ⟨q, 0, none⟩ = some (.bool p.neg) ∧ W.cell? ⟨q, 1, none⟩ = some (.string p.name) ∧ W.cell? ⟨q, 2, none⟩ = some (.bool p.hg) ∧ W.cell? ⟨q, 3, none⟩ = some (.string p.glob) := by
  refine ⟨?_, ?_, ?_, ?_⟩ <;> (rw [Lib.cell_of_heap h]; rfl)
theorem Box.kept {B q : Nat} {W W' : World} {p : Pm} (h : Box W q p) (k : Lib.OthersKept 5 (some B) W W') (hq : q ≠ B) : Box W' q p :=
  k q _ h (by intro e; exact hq (Option.some.inj e)) (by intro c fz e; cases e)

set_option maxHeartbeats 2000000 in
set_option maxRecDepth 100000 in
theorem string_some (deny : Bool) (action : ByteArray) (ps : List Pm) (b off cap : Nat) (w : World) (hb : b < w.heap.size) (hps : PsAt w b off ps) (hn : ps.length ≤ 1048576) (hsz : action.size + total ps ≤ 4194304) :
    Calls Try.prog 8 #[.agg #[.bool deny, .string action, .slice (some ⟨b, off, none⟩) ps.length cap]] w fun e w' => e = .returned (.string ⟨(text deny action ps).toArray⟩) ∧ Below w.heap.size w w' := by
  have hB0 := (Lib.IsBuilderF.of (Lib.fresh_isBuilder 39 5 (w.alloc (.cells #[.bool deny, .string action, .slice (some ⟨b, off, none⟩) ps.length cap] 30))))
  have hPS : Hid (PsAt w b off ps) := hps
  clear hps
  have hw1 : (w.alloc (.cells #[.bool deny, .string action, .slice (some ⟨b, off, none⟩) ps.length cap] 30)).heap.size = w.heap.size + 1 := by simp
  rw [hw1] at hB0
  have hBl : Below (w.heap.size + 1) (w.alloc (.cells #[.bool deny, .string action, .slice (some ⟨b, off, none⟩) ps.length cap] 30)) ((w.alloc (.cells #[.bool deny, .string action, .slice (some ⟨b, off, none⟩) ps.length cap] 30)).alloc (.cells #[.pointer none, .slice none 0 0] 39)) := (Below.refl _ _).alloc (by rw [hw1]; exact Nat.le_refl _) _
  have hout : ∀ W : World, Below (w.heap.size + 1) (w.alloc (.cells #[.bool deny, .string action, .slice (some ⟨b, off, none⟩) ps.length cap] 30)) W → Below w.heap.size w W := fun W h => ((Below.refl _ w).alloc (Nat.le_refl _) _).trans (h.mono (by omega))
  have hcel : ∀ W : World, Below (w.heap.size + 1) (w.alloc (.cells #[.bool deny, .string action, .slice (some ⟨b, off, none⟩) ps.length cap] 30)) W → PsAt W b off ps := by
    intro W h i hi
    have e : ∀ j, W.cell? ⟨b, j, none⟩ = w.cell? ⟨b, j, none⟩ := fun j => (hout W h).cell (p := ⟨b, j, none⟩) hb
    rw [e, e, e, e]
    exact hPS.out i hi
  have hrec : ∀ W : World, Below (w.heap.size + 1) (w.alloc (.cells #[.bool deny, .string action, .slice (some ⟨b, off, none⟩) ps.length cap] 30)) W → W.cell? ⟨w.heap.size, 2, none⟩ = some (.slice (some ⟨b, off, none⟩) ps.length cap) := by
    intro W h
    rw [h.cell (p := ⟨w.heap.size, 2, none⟩) (by simp)]; simp
  have Hcel := hid hcel
  have Hrec := hid hrec
  have Hout := hid hout
  clear hcel hrec hout
  have hal : action.size = action.data.toList.length := Lib.size_eq _
  have HAL := hid hal
  clear hal
  cases deny
  case' false =>
    go_enter Try.func8, Try.ntmps8
    go_wp2_with fail
    refine (writeString (w.heap.size + 1) (w.heap.size + 1) _ action _ hB0 (by simp; omega) (by simp)).mono ?_
    rintro e W1 ⟨rfl, h1, b1, k1⟩
    obtain ⟨hd, Hhd, hdl, hI1⟩ : ∃ hd, Hid (hd = headT false action) ∧ hd.length ≤ action.size + 1 ∧ Lib.IsBuilderF 39 5 (w.heap.size + 1) (w.heap.size + 1) (Lib.byteCells hd) W1 := ⟨headT false action, hid rfl, by rw [HAL.out]; simp [headT], Or.inr h1⟩
  case' true =>
    go_enter Try.func8, Try.ntmps8
    go_wp2_with fail
    refine (writeByte (w.heap.size + 1) (w.heap.size + 1) _ 33 _ hB0 (by simp) (by simp)).mono ?_
    rintro e W0 ⟨rfl, h0, b0, k0⟩
    have hb0 := hBl.trans b0
    have r1 : W0.cell? ⟨w.heap.size, 1, none⟩ = some (.string action) := by
      rw [hb0.cell (p := ⟨w.heap.size, 1, none⟩) (by simp)]; simp
    have s0 : w.heap.size + 1 ≤ W0.heap.size := by have := hb0.size; simp at this; omega
    go_wp2_with fail
    refine (writeString (w.heap.size + 1) (w.heap.size + 1) _ action _ (Or.inr h0) (by simp; omega) s0).mono ?_
    rintro e W1 ⟨rfl, h1, b1', k1⟩
    have b1 := b0.trans b1'
    obtain ⟨hd, Hhd, hdl, hI1⟩ : ∃ hd, Hid (hd = headT true action) ∧ hd.length ≤ action.size + 1 ∧ Lib.IsBuilderF 39 5 (w.heap.size + 1) (w.heap.size + 1) (Lib.byteCells hd) W1 := ⟨headT true action, hid rfl, by rw [HAL.out]; simp [headT], Or.inr h1⟩
    clear r1 h0 hb0 k0 b1' b0 s0
  case false =>
    have hb1 := hBl.trans b1
    have r2 := Hrec.out W1 hb1
    clear h1 k1 b1 hBl hB0 hw1
    go_wp2
    go_loopw [15] (fun i wr => ∃ k : Nat, k ≤ ps.length ∧ i = .int .i64 k ∧ Lib.IsBuilderF 39 5 (w.heap.size + 1) (w.heap.size + 1) (Lib.byteCells (hd ++ opened (ps.take k))) wr ∧ Below (w.heap.size + 1) (w.alloc (.cells #[.bool false, .string action, .slice (some ⟨b, off, none⟩) ps.length cap] 30)) wr) (fun i wr => ps.length - (intOf i).toNat)
    case atStart => exact ⟨0, Nat.zero_le _, rfl, by simpa [opened] using hI1, hb1⟩
    case round =>
      clear r2
      obtain ⟨k, hk, rfl, hI, hbw⟩ := hrel
      have hBs : w.heap.size + 1 < wr.heap.size := by
        rcases hI with h | h
        · exact h.lt
        · exact h.lt
      have hl0 : (hd ++ opened (ps.take k)).length ≤ 4194305 := by
        have h1 := opened_le (ps.take k)
        have h2 := total_take ps k
        rw [List.length_append]
        omega
      by_cases hlt : k < ps.length
      · obtain ⟨c0, c1, c2, c3⟩ := Hcel.out wr hbw k hlt
        obtain ⟨p, hp⟩ : ∃ p, ps[k] = p := ⟨_, rfl⟩
        rw [hp] at c0 c1 c2 c3
        have hpz : psize p ≤ total ps := by
          have h1 : total (ps.take (k + 1)) = total (ps.take k) + psize p := by rw [List.take_succ_eq_append_getElem hlt, total_append, total_one, hp]
          have h2 := total_take ps (k + 1)
          omega
        have hsn : opened (ps.take (k + 1)) = opened (ps.take k) ++ (if (ps.take k).isEmpty then 40 else 44) :: ptext p := by rw [List.take_succ_eq_append_getElem hlt, opened_snoc, hp]
        have HSN := hid hsn
        clear hsn hp
        have hnm : p.name.size ≤ 4194304 := by unfold psize at hpz; omega
        have hgm : p.glob.size ≤ 4194304 := by unfold psize at hpz; omega
        clear hpz
        have hbox := alloc_at wr (.cells #[.bool p.neg, .string p.name, .bool p.hg, .string p.glob] 35)
        have hI' := hI.alloc (.cells #[.bool p.neg, .string p.name, .bool p.hg, .string p.glob] 35)
        have hbw' := hbw.alloc (Nat.le_of_lt hBs) (.cells #[.bool p.neg, .string p.name, .bool p.hg, .string p.glob] 35)
        have hq : wr.heap.size ≠ w.heap.size + 1 := by omega
        have hs0 : w.heap.size + 1 ≤ (wr.alloc (.cells #[.bool p.neg, .string p.name, .bool p.hg, .string p.glob] 35)).heap.size := by simp; omega
        have hbx : Box (wr.alloc (.cells #[.bool p.neg, .string p.name, .bool p.hg, .string p.glob] 35)) wr.heap.size p := hbox
        have hacc : ∃ acc : List UInt8, acc = hd ++ opened (ps.take k) := ⟨_, rfl⟩
        obtain ⟨acc, hacc⟩ := hacc
        rw [← hacc] at hI' hl0
        have HACC := hid hacc
        clear hacc hI hbox
        obtain ⟨neg, name, hg, glob⟩ := p
        simp only at c0 c1 c2 c3 hnm hgm hI' hbw' hbx hs0
        have Hbx := hid hbx
        clear hbx
        by_cases hk0 : k = 0
        · have hke : (if (ps.take k).isEmpty then (40 : UInt8) else 44) = 40 := by rw [hk0]; rfl
          have HK := hid hk0
          have hk0' : ((k : Int) == 0) = true := by rw [hk0]; rfl
          clear hk0
          cases neg <;> cases hg
          · go_wp2_with fail
            refine (writeByte (w.heap.size + 1) (w.heap.size + 1) _ 40 _ hI' (by simp [Lib.byteCells_length, Lib.strCells_length]; omega) hs0).mono ?_
            rintro e V1 ⟨rfl, h1, b1, k1⟩
            have hbw1 := hbw'.trans b1
            have hs1 : w.heap.size + 1 ≤ V1.heap.size := Nat.le_trans hs0 b1.size
            have hbx1 := hid ((Hbx.out).kept k1 hq)
            obtain ⟨x0, x1, x2, x3⟩ := hbx1.out.cells
            simp only at x0 x1 x2 x3
            clear k1 b1
            go_wp2_with fail
            clear x0 x1 x2 x3
            refine (writeString (w.heap.size + 1) (w.heap.size + 1) _ name _ (Or.inr h1) (by simp [Lib.byteCells_length, Lib.strCells_length]; omega) hs1).mono ?_
            rintro e V2 ⟨rfl, h2, b2, k2⟩
            have hbw2 := hbw1.trans b2
            have hs2 : w.heap.size + 1 ≤ V2.heap.size := Nat.le_trans hs1 b2.size
            have hbx2 := hid ((hbx1.out).kept k2 hq)
            obtain ⟨x0, x1, x2, x3⟩ := hbx2.out.cells
            simp only at x0 x1 x2 x3
            clear k2 b2
            go_wp2
            go_roundw
            case rel =>
              refine ⟨k + 1, by omega, by go_num, ?_, hbw2⟩
              rw [HSN.out, hke, ← List.append_assoc, ← HACC.out]
              have hfin : Lib.IsBuilderF 39 5 (w.heap.size + 1) (w.heap.size + 1) _ V2 := Or.inr h2
              rw [Lib.byteCells_append]
              simpa [ptext, Lib.byteCells, Lib.strCells] using hfin
            case measure => simp [intOf]; omega
          · go_wp2_with fail
            refine (writeByte (w.heap.size + 1) (w.heap.size + 1) _ 40 _ hI' (by simp [Lib.byteCells_length, Lib.strCells_length]; omega) hs0).mono ?_
            rintro e V1 ⟨rfl, h1, b1, k1⟩
            have hbw1 := hbw'.trans b1
            have hs1 : w.heap.size + 1 ≤ V1.heap.size := Nat.le_trans hs0 b1.size
            have hbx1 := hid ((Hbx.out).kept k1 hq)
            obtain ⟨x0, x1, x2, x3⟩ := hbx1.out.cells
            simp only at x0 x1 x2 x3
            clear k1 b1
            go_wp2_with fail
            clear x0 x1 x2 x3
            refine (writeString (w.heap.size + 1) (w.heap.size + 1) _ name _ (Or.inr h1) (by simp [Lib.byteCells_length, Lib.strCells_length]; omega) hs1).mono ?_
            rintro e V2 ⟨rfl, h2, b2, k2⟩
            have hbw2 := hbw1.trans b2
            have hs2 : w.heap.size + 1 ≤ V2.heap.size := Nat.le_trans hs1 b2.size
            have hbx2 := hid ((hbx1.out).kept k2 hq)
            obtain ⟨x0, x1, x2, x3⟩ := hbx2.out.cells
            simp only at x0 x1 x2 x3
            clear k2 b2
            go_wp2_with fail
            clear x0 x1 x2 x3
            refine (writeByte (w.heap.size + 1) (w.heap.size + 1) _ 61 _ (Or.inr h2) (by simp [Lib.byteCells_length, Lib.strCells_length]; omega) hs2).mono ?_
            rintro e V3 ⟨rfl, h3, b3, k3⟩
            have hbw3 := hbw2.trans b3
            have hs3 : w.heap.size + 1 ≤ V3.heap.size := Nat.le_trans hs2 b3.size
            have hbx3 := hid ((hbx2.out).kept k3 hq)
            obtain ⟨x0, x1, x2, x3⟩ := hbx3.out.cells
            simp only at x0 x1 x2 x3
            clear k3 b3
            go_wp2_with fail
            clear x0 x1 x2 x3
            refine (writeString (w.heap.size + 1) (w.heap.size + 1) _ glob _ (Or.inr h3) (by simp [Lib.byteCells_length, Lib.strCells_length]; omega) hs3).mono ?_
            rintro e V4 ⟨rfl, h4, b4, k4⟩
            have hbw4 := hbw3.trans b4
            have hs4 : w.heap.size + 1 ≤ V4.heap.size := Nat.le_trans hs3 b4.size
            have hbx4 := hid ((hbx3.out).kept k4 hq)
            obtain ⟨x0, x1, x2, x3⟩ := hbx4.out.cells
            simp only at x0 x1 x2 x3
            clear k4 b4
            go_wp2
            go_roundw
            case rel =>
              refine ⟨k + 1, by omega, by go_num, ?_, hbw4⟩
              rw [HSN.out, hke, ← List.append_assoc, ← HACC.out]
              have hfin : Lib.IsBuilderF 39 5 (w.heap.size + 1) (w.heap.size + 1) _ V4 := Or.inr h4
              rw [Lib.byteCells_append]
              simpa [ptext, Lib.byteCells, Lib.strCells] using hfin
            case measure => simp [intOf]; omega
          · go_wp2_with fail
            refine (writeByte (w.heap.size + 1) (w.heap.size + 1) _ 40 _ hI' (by simp [Lib.byteCells_length, Lib.strCells_length]; omega) hs0).mono ?_
            rintro e V1 ⟨rfl, h1, b1, k1⟩
            have hbw1 := hbw'.trans b1
            have hs1 : w.heap.size + 1 ≤ V1.heap.size := Nat.le_trans hs0 b1.size
            have hbx1 := hid ((Hbx.out).kept k1 hq)
            obtain ⟨x0, x1, x2, x3⟩ := hbx1.out.cells
            simp only at x0 x1 x2 x3
            clear k1 b1
            go_wp2_with fail
            clear x0 x1 x2 x3
            refine (writeByte (w.heap.size + 1) (w.heap.size + 1) _ 33 _ (Or.inr h1) (by simp [Lib.byteCells_length, Lib.strCells_length]; omega) hs1).mono ?_
            rintro e V2 ⟨rfl, h2, b2, k2⟩
            have hbw2 := hbw1.trans b2
            have hs2 : w.heap.size + 1 ≤ V2.heap.size := Nat.le_trans hs1 b2.size
            have hbx2 := hid ((hbx1.out).kept k2 hq)
            obtain ⟨x0, x1, x2, x3⟩ := hbx2.out.cells
            simp only at x0 x1 x2 x3
            clear k2 b2
            go_wp2_with fail
            clear x0 x1 x2 x3
            refine (writeString (w.heap.size + 1) (w.heap.size + 1) _ name _ (Or.inr h2) (by simp [Lib.byteCells_length, Lib.strCells_length]; omega) hs2).mono ?_
            rintro e V3 ⟨rfl, h3, b3, k3⟩
            have hbw3 := hbw2.trans b3
            have hs3 : w.heap.size + 1 ≤ V3.heap.size := Nat.le_trans hs2 b3.size
            have hbx3 := hid ((hbx2.out).kept k3 hq)
            obtain ⟨x0, x1, x2, x3⟩ := hbx3.out.cells
            simp only at x0 x1 x2 x3
            clear k3 b3
            go_wp2
            go_roundw
            case rel =>
              refine ⟨k + 1, by omega, by go_num, ?_, hbw3⟩
              rw [HSN.out, hke, ← List.append_assoc, ← HACC.out]
              have hfin : Lib.IsBuilderF 39 5 (w.heap.size + 1) (w.heap.size + 1) _ V3 := Or.inr h3
              rw [Lib.byteCells_append]
              simpa [ptext, Lib.byteCells, Lib.strCells] using hfin
            case measure => simp [intOf]; omega
          · go_wp2_with fail
            refine (writeByte (w.heap.size + 1) (w.heap.size + 1) _ 40 _ hI' (by simp [Lib.byteCells_length, Lib.strCells_length]; omega) hs0).mono ?_
            rintro e V1 ⟨rfl, h1, b1, k1⟩
            have hbw1 := hbw'.trans b1
            have hs1 : w.heap.size + 1 ≤ V1.heap.size := Nat.le_trans hs0 b1.size
            have hbx1 := hid ((Hbx.out).kept k1 hq)
            obtain ⟨x0, x1, x2, x3⟩ := hbx1.out.cells
            simp only at x0 x1 x2 x3
            clear k1 b1
            go_wp2_with fail
            clear x0 x1 x2 x3
            refine (writeByte (w.heap.size + 1) (w.heap.size + 1) _ 33 _ (Or.inr h1) (by simp [Lib.byteCells_length, Lib.strCells_length]; omega) hs1).mono ?_
            rintro e V2 ⟨rfl, h2, b2, k2⟩
            have hbw2 := hbw1.trans b2
            have hs2 : w.heap.size + 1 ≤ V2.heap.size := Nat.le_trans hs1 b2.size
            have hbx2 := hid ((hbx1.out).kept k2 hq)
            obtain ⟨x0, x1, x2, x3⟩ := hbx2.out.cells
            simp only at x0 x1 x2 x3
            clear k2 b2
            go_wp2_with fail
            clear x0 x1 x2 x3
            refine (writeString (w.heap.size + 1) (w.heap.size + 1) _ name _ (Or.inr h2) (by simp [Lib.byteCells_length, Lib.strCells_length]; omega) hs2).mono ?_
            rintro e V3 ⟨rfl, h3, b3, k3⟩
            have hbw3 := hbw2.trans b3
            have hs3 : w.heap.size + 1 ≤ V3.heap.size := Nat.le_trans hs2 b3.size
            have hbx3 := hid ((hbx2.out).kept k3 hq)
            obtain ⟨x0, x1, x2, x3⟩ := hbx3.out.cells
            simp only at x0 x1 x2 x3
            clear k3 b3
            go_wp2_with fail
            clear x0 x1 x2 x3
            refine (writeByte (w.heap.size + 1) (w.heap.size + 1) _ 61 _ (Or.inr h3) (by simp [Lib.byteCells_length, Lib.strCells_length]; omega) hs3).mono ?_
            rintro e V4 ⟨rfl, h4, b4, k4⟩
            have hbw4 := hbw3.trans b4
            have hs4 : w.heap.size + 1 ≤ V4.heap.size := Nat.le_trans hs3 b4.size
            have hbx4 := hid ((hbx3.out).kept k4 hq)
            obtain ⟨x0, x1, x2, x3⟩ := hbx4.out.cells
            simp only at x0 x1 x2 x3
            clear k4 b4
            go_wp2_with fail
            clear x0 x1 x2 x3
            refine (writeString (w.heap.size + 1) (w.heap.size + 1) _ glob _ (Or.inr h4) (by simp [Lib.byteCells_length, Lib.strCells_length]; omega) hs4).mono ?_
            rintro e V5 ⟨rfl, h5, b5, k5⟩
            have hbw5 := hbw4.trans b5
            have hs5 : w.heap.size + 1 ≤ V5.heap.size := Nat.le_trans hs4 b5.size
            have hbx5 := hid ((hbx4.out).kept k5 hq)
            obtain ⟨x0, x1, x2, x3⟩ := hbx5.out.cells
            simp only at x0 x1 x2 x3
            clear k5 b5
            go_wp2
            go_roundw
            case rel =>
              refine ⟨k + 1, by omega, by go_num, ?_, hbw5⟩
              rw [HSN.out, hke, ← List.append_assoc, ← HACC.out]
              have hfin : Lib.IsBuilderF 39 5 (w.heap.size + 1) (w.heap.size + 1) _ V5 := Or.inr h5
              rw [Lib.byteCells_append]
              simpa [ptext, Lib.byteCells, Lib.strCells] using hfin
            case measure => simp [intOf]; omega
        · have hke : (if (ps.take k).isEmpty then (40 : UInt8) else 44) = 44 := by
            rw [if_neg]
            simp
            exact ⟨hk0, fun e => by rw [e] at hlt; simp at hlt⟩
          have hk0' : ((k : Int) == 0) = false := by simp; omega
          clear hk0
          cases neg <;> cases hg
          · go_wp2_with fail
            refine (writeByte (w.heap.size + 1) (w.heap.size + 1) _ 44 _ hI' (by simp [Lib.byteCells_length, Lib.strCells_length]; omega) hs0).mono ?_
            rintro e V1 ⟨rfl, h1, b1, k1⟩
            have hbw1 := hbw'.trans b1
            have hs1 : w.heap.size + 1 ≤ V1.heap.size := Nat.le_trans hs0 b1.size
            have hbx1 := hid ((Hbx.out).kept k1 hq)
            obtain ⟨x0, x1, x2, x3⟩ := hbx1.out.cells
            simp only at x0 x1 x2 x3
            clear k1 b1
            go_wp2_with fail
            clear x0 x1 x2 x3
            refine (writeString (w.heap.size + 1) (w.heap.size + 1) _ name _ (Or.inr h1) (by simp [Lib.byteCells_length, Lib.strCells_length]; omega) hs1).mono ?_
            rintro e V2 ⟨rfl, h2, b2, k2⟩
            have hbw2 := hbw1.trans b2
            have hs2 : w.heap.size + 1 ≤ V2.heap.size := Nat.le_trans hs1 b2.size
            have hbx2 := hid ((hbx1.out).kept k2 hq)
            obtain ⟨x0, x1, x2, x3⟩ := hbx2.out.cells
            simp only at x0 x1 x2 x3
            clear k2 b2
            go_wp2
            go_roundw
            case rel =>
              refine ⟨k + 1, by omega, by go_num, ?_, hbw2⟩
              rw [HSN.out, hke, ← List.append_assoc, ← HACC.out]
              have hfin : Lib.IsBuilderF 39 5 (w.heap.size + 1) (w.heap.size + 1) _ V2 := Or.inr h2
              rw [Lib.byteCells_append]
              simpa [ptext, Lib.byteCells, Lib.strCells] using hfin
            case measure => simp [intOf]; omega
          · go_wp2_with fail
            refine (writeByte (w.heap.size + 1) (w.heap.size + 1) _ 44 _ hI' (by simp [Lib.byteCells_length, Lib.strCells_length]; omega) hs0).mono ?_
            rintro e V1 ⟨rfl, h1, b1, k1⟩
            have hbw1 := hbw'.trans b1
            have hs1 : w.heap.size + 1 ≤ V1.heap.size := Nat.le_trans hs0 b1.size
            have hbx1 := hid ((Hbx.out).kept k1 hq)
            obtain ⟨x0, x1, x2, x3⟩ := hbx1.out.cells
            simp only at x0 x1 x2 x3
            clear k1 b1
            go_wp2_with fail
            clear x0 x1 x2 x3
            refine (writeString (w.heap.size + 1) (w.heap.size + 1) _ name _ (Or.inr h1) (by simp [Lib.byteCells_length, Lib.strCells_length]; omega) hs1).mono ?_
            rintro e V2 ⟨rfl, h2, b2, k2⟩
            have hbw2 := hbw1.trans b2
            have hs2 : w.heap.size + 1 ≤ V2.heap.size := Nat.le_trans hs1 b2.size
            have hbx2 := hid ((hbx1.out).kept k2 hq)
            obtain ⟨x0, x1, x2, x3⟩ := hbx2.out.cells
            simp only at x0 x1 x2 x3
            clear k2 b2
            go_wp2_with fail
            clear x0 x1 x2 x3
            refine (writeByte (w.heap.size + 1) (w.heap.size + 1) _ 61 _ (Or.inr h2) (by simp [Lib.byteCells_length, Lib.strCells_length]; omega) hs2).mono ?_
            rintro e V3 ⟨rfl, h3, b3, k3⟩
            have hbw3 := hbw2.trans b3
            have hs3 : w.heap.size + 1 ≤ V3.heap.size := Nat.le_trans hs2 b3.size
            have hbx3 := hid ((hbx2.out).kept k3 hq)
            obtain ⟨x0, x1, x2, x3⟩ := hbx3.out.cells
            simp only at x0 x1 x2 x3
            clear k3 b3
            go_wp2_with fail
            clear x0 x1 x2 x3
            refine (writeString (w.heap.size + 1) (w.heap.size + 1) _ glob _ (Or.inr h3) (by simp [Lib.byteCells_length, Lib.strCells_length]; omega) hs3).mono ?_
            rintro e V4 ⟨rfl, h4, b4, k4⟩
            have hbw4 := hbw3.trans b4
            have hs4 : w.heap.size + 1 ≤ V4.heap.size := Nat.le_trans hs3 b4.size
            have hbx4 := hid ((hbx3.out).kept k4 hq)
            obtain ⟨x0, x1, x2, x3⟩ := hbx4.out.cells
            simp only at x0 x1 x2 x3
            clear k4 b4
            go_wp2
            go_roundw
            case rel =>
              refine ⟨k + 1, by omega, by go_num, ?_, hbw4⟩
              rw [HSN.out, hke, ← List.append_assoc, ← HACC.out]
              have hfin : Lib.IsBuilderF 39 5 (w.heap.size + 1) (w.heap.size + 1) _ V4 := Or.inr h4
              rw [Lib.byteCells_append]
              simpa [ptext, Lib.byteCells, Lib.strCells] using hfin
            case measure => simp [intOf]; omega
          · go_wp2_with fail
            refine (writeByte (w.heap.size + 1) (w.heap.size + 1) _ 44 _ hI' (by simp [Lib.byteCells_length, Lib.strCells_length]; omega) hs0).mono ?_
            rintro e V1 ⟨rfl, h1, b1, k1⟩
            have hbw1 := hbw'.trans b1
            have hs1 : w.heap.size + 1 ≤ V1.heap.size := Nat.le_trans hs0 b1.size
            have hbx1 := hid ((Hbx.out).kept k1 hq)
            obtain ⟨x0, x1, x2, x3⟩ := hbx1.out.cells
            simp only at x0 x1 x2 x3
            clear k1 b1
            go_wp2_with fail
            clear x0 x1 x2 x3
            refine (writeByte (w.heap.size + 1) (w.heap.size + 1) _ 33 _ (Or.inr h1) (by simp [Lib.byteCells_length, Lib.strCells_length]; omega) hs1).mono ?_
            rintro e V2 ⟨rfl, h2, b2, k2⟩
            have hbw2 := hbw1.trans b2
            have hs2 : w.heap.size + 1 ≤ V2.heap.size := Nat.le_trans hs1 b2.size
            have hbx2 := hid ((hbx1.out).kept k2 hq)
            obtain ⟨x0, x1, x2, x3⟩ := hbx2.out.cells
            simp only at x0 x1 x2 x3
            clear k2 b2
            go_wp2_with fail
            clear x0 x1 x2 x3
            refine (writeString (w.heap.size + 1) (w.heap.size + 1) _ name _ (Or.inr h2) (by simp [Lib.byteCells_length, Lib.strCells_length]; omega) hs2).mono ?_
            rintro e V3 ⟨rfl, h3, b3, k3⟩
            have hbw3 := hbw2.trans b3
            have hs3 : w.heap.size + 1 ≤ V3.heap.size := Nat.le_trans hs2 b3.size
            have hbx3 := hid ((hbx2.out).kept k3 hq)
            obtain ⟨x0, x1, x2, x3⟩ := hbx3.out.cells
            simp only at x0 x1 x2 x3
            clear k3 b3
            go_wp2
            go_roundw
            case rel =>
              refine ⟨k + 1, by omega, by go_num, ?_, hbw3⟩
              rw [HSN.out, hke, ← List.append_assoc, ← HACC.out]
              have hfin : Lib.IsBuilderF 39 5 (w.heap.size + 1) (w.heap.size + 1) _ V3 := Or.inr h3
              rw [Lib.byteCells_append]
              simpa [ptext, Lib.byteCells, Lib.strCells] using hfin
            case measure => simp [intOf]; omega
          · go_wp2_with fail
            refine (writeByte (w.heap.size + 1) (w.heap.size + 1) _ 44 _ hI' (by simp [Lib.byteCells_length, Lib.strCells_length]; omega) hs0).mono ?_
            rintro e V1 ⟨rfl, h1, b1, k1⟩
            have hbw1 := hbw'.trans b1
            have hs1 : w.heap.size + 1 ≤ V1.heap.size := Nat.le_trans hs0 b1.size
            have hbx1 := hid ((Hbx.out).kept k1 hq)
            obtain ⟨x0, x1, x2, x3⟩ := hbx1.out.cells
            simp only at x0 x1 x2 x3
            clear k1 b1
            go_wp2_with fail
            clear x0 x1 x2 x3
            refine (writeByte (w.heap.size + 1) (w.heap.size + 1) _ 33 _ (Or.inr h1) (by simp [Lib.byteCells_length, Lib.strCells_length]; omega) hs1).mono ?_
            rintro e V2 ⟨rfl, h2, b2, k2⟩
            have hbw2 := hbw1.trans b2
            have hs2 : w.heap.size + 1 ≤ V2.heap.size := Nat.le_trans hs1 b2.size
            have hbx2 := hid ((hbx1.out).kept k2 hq)
            obtain ⟨x0, x1, x2, x3⟩ := hbx2.out.cells
            simp only at x0 x1 x2 x3
            clear k2 b2
            go_wp2_with fail
            clear x0 x1 x2 x3
            refine (writeString (w.heap.size + 1) (w.heap.size + 1) _ name _ (Or.inr h2) (by simp [Lib.byteCells_length, Lib.strCells_length]; omega) hs2).mono ?_
            rintro e V3 ⟨rfl, h3, b3, k3⟩
            have hbw3 := hbw2.trans b3
            have hs3 : w.heap.size + 1 ≤ V3.heap.size := Nat.le_trans hs2 b3.size
            have hbx3 := hid ((hbx2.out).kept k3 hq)
            obtain ⟨x0, x1, x2, x3⟩ := hbx3.out.cells
            simp only at x0 x1 x2 x3
            clear k3 b3
            go_wp2_with fail
            clear x0 x1 x2 x3
            refine (writeByte (w.heap.size + 1) (w.heap.size + 1) _ 61 _ (Or.inr h3) (by simp [Lib.byteCells_length, Lib.strCells_length]; omega) hs3).mono ?_
            rintro e V4 ⟨rfl, h4, b4, k4⟩
            have hbw4 := hbw3.trans b4
            have hs4 : w.heap.size + 1 ≤ V4.heap.size := Nat.le_trans hs3 b4.size
            have hbx4 := hid ((hbx3.out).kept k4 hq)
            obtain ⟨x0, x1, x2, x3⟩ := hbx4.out.cells
            simp only at x0 x1 x2 x3
            clear k4 b4
            go_wp2_with fail
            clear x0 x1 x2 x3
            refine (writeString (w.heap.size + 1) (w.heap.size + 1) _ glob _ (Or.inr h4) (by simp [Lib.byteCells_length, Lib.strCells_length]; omega) hs4).mono ?_
            rintro e V5 ⟨rfl, h5, b5, k5⟩
            have hbw5 := hbw4.trans b5
            have hs5 : w.heap.size + 1 ≤ V5.heap.size := Nat.le_trans hs4 b5.size
            have hbx5 := hid ((hbx4.out).kept k5 hq)
            obtain ⟨x0, x1, x2, x3⟩ := hbx5.out.cells
            simp only at x0 x1 x2 x3
            clear k5 b5
            go_wp2
            go_roundw
            case rel =>
              refine ⟨k + 1, by omega, by go_num, ?_, hbw5⟩
              rw [HSN.out, hke, ← List.append_assoc, ← HACC.out]
              have hfin : Lib.IsBuilderF 39 5 (w.heap.size + 1) (w.heap.size + 1) _ V5 := Or.inr h5
              rw [Lib.byteCells_append]
              simpa [ptext, Lib.byteCells, Lib.strCells] using hfin
            case measure => simp [intOf]; omega
      · have hke : k = ps.length := by omega
        have hr2 := Hrec.out wr hbw
        have hop : opened (ps.take k) = opened ps := by rw [hke, List.take_length]
        rw [hop] at hI hl0
        have HKE := hid hke
        clear hop hke
        by_cases hz : ps.length = 0
        · have hnil : ps = [] := List.eq_nil_of_length_eq_zero hz
          have HN := hid hnil
          have hz1 : ((ps.length : Nat) : Int) ≤ 0 := by omega
          clear hnil hz
          go_wp2_with fail
          refine (Try.Builder_String_any_k (w.heap.size + 1) (w.heap.size + 1) _ _ hI (Nat.le_of_lt hBs)).mono ?_
          rintro e V1 ⟨rfl, _, b1, _⟩
          go_wp2
          go_ret
          have efin : hd ++ opened ps = text false action ps := by rw [HN.out, Hhd.out]; simp [text, tailT, opened]
          refine ⟨ret_str ?_, Hout.out _ (hbw.trans b1)⟩
          exact efin
        · have hz1 : 0 < ((ps.length : Nat) : Int) := by omega
          have HZ := hid hz
          clear hz
          go_wp2_with fail
          refine (writeByte (w.heap.size + 1) (w.heap.size + 1) _ 41 _ hI (by rw [Lib.byteCells_length]; omega) (Nat.le_of_lt hBs)).mono ?_
          rintro e V1 ⟨rfl, h1, b1, k1⟩
          have hfin : Lib.IsBuilderF 39 5 (w.heap.size + 1) (w.heap.size + 1) (Lib.byteCells (hd ++ opened ps ++ [41])) V1 := by rw [Lib.byteCells_append]; exact Or.inr h1
          have hs1 : w.heap.size + 1 ≤ V1.heap.size := Nat.le_trans (Nat.le_of_lt hBs) b1.size
          have hbw1 := hbw.trans b1
          clear h1 k1 b1 hI
          go_wp2_with fail
          refine (Try.Builder_String_any_k (w.heap.size + 1) (w.heap.size + 1) _ _ hfin hs1).mono ?_
          rintro e V2 ⟨rfl, _, b2, _⟩
          go_wp2
          go_ret
          have efin : hd ++ (opened ps ++ [41]) = text false action ps := by
            have hne : ps.isEmpty = false := by
              cases hps : ps with
              | nil => exact absurd (by rw [hps]; rfl) HZ.out
              | cons _ _ => rfl
            rw [Hhd.out, text, tailT, if_neg (by rw [hne]; exact Bool.false_ne_true)]
          refine ⟨ret_str ?_, Hout.out _ (hbw1.trans b2)⟩
          first | exact efin | (rw [List.append_assoc]; exact efin)
  case true =>
    have hb1 := hBl.trans b1
    have r2 := Hrec.out W1 hb1
    clear h1 k1 b1 hBl hB0 hw1
    go_wp2
    go_loopw [15] (fun i wr => ∃ k : Nat, k ≤ ps.length ∧ i = .int .i64 k ∧ Lib.IsBuilderF 39 5 (w.heap.size + 1) (w.heap.size + 1) (Lib.byteCells (hd ++ opened (ps.take k))) wr ∧ Below (w.heap.size + 1) (w.alloc (.cells #[.bool true, .string action, .slice (some ⟨b, off, none⟩) ps.length cap] 30)) wr) (fun i wr => ps.length - (intOf i).toNat)
    case atStart => exact ⟨0, Nat.zero_le _, rfl, by simpa [opened] using hI1, hb1⟩
    case round =>
      clear r2
      obtain ⟨k, hk, rfl, hI, hbw⟩ := hrel
      have hBs : w.heap.size + 1 < wr.heap.size := by
        rcases hI with h | h
        · exact h.lt
        · exact h.lt
      have hl0 : (hd ++ opened (ps.take k)).length ≤ 4194305 := by
        have h1 := opened_le (ps.take k)
        have h2 := total_take ps k
        rw [List.length_append]
        omega
      by_cases hlt : k < ps.length
      · obtain ⟨c0, c1, c2, c3⟩ := Hcel.out wr hbw k hlt
        obtain ⟨p, hp⟩ : ∃ p, ps[k] = p := ⟨_, rfl⟩
        rw [hp] at c0 c1 c2 c3
        have hpz : psize p ≤ total ps := by
          have h1 : total (ps.take (k + 1)) = total (ps.take k) + psize p := by rw [List.take_succ_eq_append_getElem hlt, total_append, total_one, hp]
          have h2 := total_take ps (k + 1)
          omega
        have hsn : opened (ps.take (k + 1)) = opened (ps.take k) ++ (if (ps.take k).isEmpty then 40 else 44) :: ptext p := by rw [List.take_succ_eq_append_getElem hlt, opened_snoc, hp]
        have HSN := hid hsn
        clear hsn hp
        have hnm : p.name.size ≤ 4194304 := by unfold psize at hpz; omega
        have hgm : p.glob.size ≤ 4194304 := by unfold psize at hpz; omega
        clear hpz
        have hbox := alloc_at wr (.cells #[.bool p.neg, .string p.name, .bool p.hg, .string p.glob] 35)
        have hI' := hI.alloc (.cells #[.bool p.neg, .string p.name, .bool p.hg, .string p.glob] 35)
        have hbw' := hbw.alloc (Nat.le_of_lt hBs) (.cells #[.bool p.neg, .string p.name, .bool p.hg, .string p.glob] 35)
        have hq : wr.heap.size ≠ w.heap.size + 1 := by omega
        have hs0 : w.heap.size + 1 ≤ (wr.alloc (.cells #[.bool p.neg, .string p.name, .bool p.hg, .string p.glob] 35)).heap.size := by simp; omega
        have hbx : Box (wr.alloc (.cells #[.bool p.neg, .string p.name, .bool p.hg, .string p.glob] 35)) wr.heap.size p := hbox
        have hacc : ∃ acc : List UInt8, acc = hd ++ opened (ps.take k) := ⟨_, rfl⟩
        obtain ⟨acc, hacc⟩ := hacc
        rw [← hacc] at hI' hl0
        have HACC := hid hacc
        clear hacc hI hbox
        obtain ⟨neg, name, hg, glob⟩ := p
        simp only at c0 c1 c2 c3 hnm hgm hI' hbw' hbx hs0
        have Hbx := hid hbx
        clear hbx
        by_cases hk0 : k = 0
        · have hke : (if (ps.take k).isEmpty then (40 : UInt8) else 44) = 40 := by rw [hk0]; rfl
          have HK := hid hk0
          have hk0' : ((k : Int) == 0) = true := by rw [hk0]; rfl
          clear hk0
          cases neg <;> cases hg
          · go_wp2_with fail
            refine (writeByte (w.heap.size + 1) (w.heap.size + 1) _ 40 _ hI' (by simp [Lib.byteCells_length, Lib.strCells_length]; omega) hs0).mono ?_
            rintro e V1 ⟨rfl, h1, b1, k1⟩
            have hbw1 := hbw'.trans b1
            have hs1 : w.heap.size + 1 ≤ V1.heap.size := Nat.le_trans hs0 b1.size
            have hbx1 := hid ((Hbx.out).kept k1 hq)
            obtain ⟨x0, x1, x2, x3⟩ := hbx1.out.cells
            simp only at x0 x1 x2 x3
            clear k1 b1
            go_wp2_with fail
            clear x0 x1 x2 x3
            refine (writeString (w.heap.size + 1) (w.heap.size + 1) _ name _ (Or.inr h1) (by simp [Lib.byteCells_length, Lib.strCells_length]; omega) hs1).mono ?_
            rintro e V2 ⟨rfl, h2, b2, k2⟩
            have hbw2 := hbw1.trans b2
            have hs2 : w.heap.size + 1 ≤ V2.heap.size := Nat.le_trans hs1 b2.size
            have hbx2 := hid ((hbx1.out).kept k2 hq)
            obtain ⟨x0, x1, x2, x3⟩ := hbx2.out.cells
            simp only at x0 x1 x2 x3
            clear k2 b2
            go_wp2
            go_roundw
            case rel =>
              refine ⟨k + 1, by omega, by go_num, ?_, hbw2⟩
              rw [HSN.out, hke, ← List.append_assoc, ← HACC.out]
              have hfin : Lib.IsBuilderF 39 5 (w.heap.size + 1) (w.heap.size + 1) _ V2 := Or.inr h2
              rw [Lib.byteCells_append]
              simpa [ptext, Lib.byteCells, Lib.strCells] using hfin
            case measure => simp [intOf]; omega
          · go_wp2_with fail
            refine (writeByte (w.heap.size + 1) (w.heap.size + 1) _ 40 _ hI' (by simp [Lib.byteCells_length, Lib.strCells_length]; omega) hs0).mono ?_
            rintro e V1 ⟨rfl, h1, b1, k1⟩
            have hbw1 := hbw'.trans b1
            have hs1 : w.heap.size + 1 ≤ V1.heap.size := Nat.le_trans hs0 b1.size
            have hbx1 := hid ((Hbx.out).kept k1 hq)
            obtain ⟨x0, x1, x2, x3⟩ := hbx1.out.cells
            simp only at x0 x1 x2 x3
            clear k1 b1
            go_wp2_with fail
            clear x0 x1 x2 x3
            refine (writeString (w.heap.size + 1) (w.heap.size + 1) _ name _ (Or.inr h1) (by simp [Lib.byteCells_length, Lib.strCells_length]; omega) hs1).mono ?_
            rintro e V2 ⟨rfl, h2, b2, k2⟩
            have hbw2 := hbw1.trans b2
            have hs2 : w.heap.size + 1 ≤ V2.heap.size := Nat.le_trans hs1 b2.size
            have hbx2 := hid ((hbx1.out).kept k2 hq)
            obtain ⟨x0, x1, x2, x3⟩ := hbx2.out.cells
            simp only at x0 x1 x2 x3
            clear k2 b2
            go_wp2_with fail
            clear x0 x1 x2 x3
            refine (writeByte (w.heap.size + 1) (w.heap.size + 1) _ 61 _ (Or.inr h2) (by simp [Lib.byteCells_length, Lib.strCells_length]; omega) hs2).mono ?_
            rintro e V3 ⟨rfl, h3, b3, k3⟩
            have hbw3 := hbw2.trans b3
            have hs3 : w.heap.size + 1 ≤ V3.heap.size := Nat.le_trans hs2 b3.size
            have hbx3 := hid ((hbx2.out).kept k3 hq)
            obtain ⟨x0, x1, x2, x3⟩ := hbx3.out.cells
            simp only at x0 x1 x2 x3
            clear k3 b3
            go_wp2_with fail
            clear x0 x1 x2 x3
            refine (writeString (w.heap.size + 1) (w.heap.size + 1) _ glob _ (Or.inr h3) (by simp [Lib.byteCells_length, Lib.strCells_length]; omega) hs3).mono ?_
            rintro e V4 ⟨rfl, h4, b4, k4⟩
            have hbw4 := hbw3.trans b4
            have hs4 : w.heap.size + 1 ≤ V4.heap.size := Nat.le_trans hs3 b4.size
            have hbx4 := hid ((hbx3.out).kept k4 hq)
            obtain ⟨x0, x1, x2, x3⟩ := hbx4.out.cells
            simp only at x0 x1 x2 x3
            clear k4 b4
            go_wp2
            go_roundw
            case rel =>
              refine ⟨k + 1, by omega, by go_num, ?_, hbw4⟩
              rw [HSN.out, hke, ← List.append_assoc, ← HACC.out]
              have hfin : Lib.IsBuilderF 39 5 (w.heap.size + 1) (w.heap.size + 1) _ V4 := Or.inr h4
              rw [Lib.byteCells_append]
              simpa [ptext, Lib.byteCells, Lib.strCells] using hfin
            case measure => simp [intOf]; omega
          · go_wp2_with fail
            refine (writeByte (w.heap.size + 1) (w.heap.size + 1) _ 40 _ hI' (by simp [Lib.byteCells_length, Lib.strCells_length]; omega) hs0).mono ?_
            rintro e V1 ⟨rfl, h1, b1, k1⟩
            have hbw1 := hbw'.trans b1
            have hs1 : w.heap.size + 1 ≤ V1.heap.size := Nat.le_trans hs0 b1.size
            have hbx1 := hid ((Hbx.out).kept k1 hq)
            obtain ⟨x0, x1, x2, x3⟩ := hbx1.out.cells
            simp only at x0 x1 x2 x3
            clear k1 b1
            go_wp2_with fail
            clear x0 x1 x2 x3
            refine (writeByte (w.heap.size + 1) (w.heap.size + 1) _ 33 _ (Or.inr h1) (by simp [Lib.byteCells_length, Lib.strCells_length]; omega) hs1).mono ?_
            rintro e V2 ⟨rfl, h2, b2, k2⟩
            have hbw2 := hbw1.trans b2
            have hs2 : w.heap.size + 1 ≤ V2.heap.size := Nat.le_trans hs1 b2.size
            have hbx2 := hid ((hbx1.out).kept k2 hq)
            obtain ⟨x0, x1, x2, x3⟩ := hbx2.out.cells
            simp only at x0 x1 x2 x3
            clear k2 b2
            go_wp2_with fail
            clear x0 x1 x2 x3
            refine (writeString (w.heap.size + 1) (w.heap.size + 1) _ name _ (Or.inr h2) (by simp [Lib.byteCells_length, Lib.strCells_length]; omega) hs2).mono ?_
            rintro e V3 ⟨rfl, h3, b3, k3⟩
            have hbw3 := hbw2.trans b3
            have hs3 : w.heap.size + 1 ≤ V3.heap.size := Nat.le_trans hs2 b3.size
            have hbx3 := hid ((hbx2.out).kept k3 hq)
            obtain ⟨x0, x1, x2, x3⟩ := hbx3.out.cells
            simp only at x0 x1 x2 x3
            clear k3 b3
            go_wp2
            go_roundw
            case rel =>
              refine ⟨k + 1, by omega, by go_num, ?_, hbw3⟩
              rw [HSN.out, hke, ← List.append_assoc, ← HACC.out]
              have hfin : Lib.IsBuilderF 39 5 (w.heap.size + 1) (w.heap.size + 1) _ V3 := Or.inr h3
              rw [Lib.byteCells_append]
              simpa [ptext, Lib.byteCells, Lib.strCells] using hfin
            case measure => simp [intOf]; omega
          · go_wp2_with fail
            refine (writeByte (w.heap.size + 1) (w.heap.size + 1) _ 40 _ hI' (by simp [Lib.byteCells_length, Lib.strCells_length]; omega) hs0).mono ?_
            rintro e V1 ⟨rfl, h1, b1, k1⟩
            have hbw1 := hbw'.trans b1
            have hs1 : w.heap.size + 1 ≤ V1.heap.size := Nat.le_trans hs0 b1.size
            have hbx1 := hid ((Hbx.out).kept k1 hq)
            obtain ⟨x0, x1, x2, x3⟩ := hbx1.out.cells
            simp only at x0 x1 x2 x3
            clear k1 b1
            go_wp2_with fail
            clear x0 x1 x2 x3
            refine (writeByte (w.heap.size + 1) (w.heap.size + 1) _ 33 _ (Or.inr h1) (by simp [Lib.byteCells_length, Lib.strCells_length]; omega) hs1).mono ?_
            rintro e V2 ⟨rfl, h2, b2, k2⟩
            have hbw2 := hbw1.trans b2
            have hs2 : w.heap.size + 1 ≤ V2.heap.size := Nat.le_trans hs1 b2.size
            have hbx2 := hid ((hbx1.out).kept k2 hq)
            obtain ⟨x0, x1, x2, x3⟩ := hbx2.out.cells
            simp only at x0 x1 x2 x3
            clear k2 b2
            go_wp2_with fail
            clear x0 x1 x2 x3
            refine (writeString (w.heap.size + 1) (w.heap.size + 1) _ name _ (Or.inr h2) (by simp [Lib.byteCells_length, Lib.strCells_length]; omega) hs2).mono ?_
            rintro e V3 ⟨rfl, h3, b3, k3⟩
            have hbw3 := hbw2.trans b3
            have hs3 : w.heap.size + 1 ≤ V3.heap.size := Nat.le_trans hs2 b3.size
            have hbx3 := hid ((hbx2.out).kept k3 hq)
            obtain ⟨x0, x1, x2, x3⟩ := hbx3.out.cells
            simp only at x0 x1 x2 x3
            clear k3 b3
            go_wp2_with fail
            clear x0 x1 x2 x3
            refine (writeByte (w.heap.size + 1) (w.heap.size + 1) _ 61 _ (Or.inr h3) (by simp [Lib.byteCells_length, Lib.strCells_length]; omega) hs3).mono ?_
            rintro e V4 ⟨rfl, h4, b4, k4⟩
            have hbw4 := hbw3.trans b4
            have hs4 : w.heap.size + 1 ≤ V4.heap.size := Nat.le_trans hs3 b4.size
            have hbx4 := hid ((hbx3.out).kept k4 hq)
            obtain ⟨x0, x1, x2, x3⟩ := hbx4.out.cells
            simp only at x0 x1 x2 x3
            clear k4 b4
            go_wp2_with fail
            clear x0 x1 x2 x3
            refine (writeString (w.heap.size + 1) (w.heap.size + 1) _ glob _ (Or.inr h4) (by simp [Lib.byteCells_length, Lib.strCells_length]; omega) hs4).mono ?_
            rintro e V5 ⟨rfl, h5, b5, k5⟩
            have hbw5 := hbw4.trans b5
            have hs5 : w.heap.size + 1 ≤ V5.heap.size := Nat.le_trans hs4 b5.size
            have hbx5 := hid ((hbx4.out).kept k5 hq)
            obtain ⟨x0, x1, x2, x3⟩ := hbx5.out.cells
            simp only at x0 x1 x2 x3
            clear k5 b5
            go_wp2
            go_roundw
            case rel =>
              refine ⟨k + 1, by omega, by go_num, ?_, hbw5⟩
              rw [HSN.out, hke, ← List.append_assoc, ← HACC.out]
              have hfin : Lib.IsBuilderF 39 5 (w.heap.size + 1) (w.heap.size + 1) _ V5 := Or.inr h5
              rw [Lib.byteCells_append]
              simpa [ptext, Lib.byteCells, Lib.strCells] using hfin
            case measure => simp [intOf]; omega
        · have hke : (if (ps.take k).isEmpty then (40 : UInt8) else 44) = 44 := by
            rw [if_neg]
            simp
            exact ⟨hk0, fun e => by rw [e] at hlt; simp at hlt⟩
          have hk0' : ((k : Int) == 0) = false := by simp; omega
          clear hk0
          cases neg <;> cases hg
          · go_wp2_with fail
            refine (writeByte (w.heap.size + 1) (w.heap.size + 1) _ 44 _ hI' (by simp [Lib.byteCells_length, Lib.strCells_length]; omega) hs0).mono ?_
            rintro e V1 ⟨rfl, h1, b1, k1⟩
            have hbw1 := hbw'.trans b1
            have hs1 : w.heap.size + 1 ≤ V1.heap.size := Nat.le_trans hs0 b1.size
            have hbx1 := hid ((Hbx.out).kept k1 hq)
            obtain ⟨x0, x1, x2, x3⟩ := hbx1.out.cells
            simp only at x0 x1 x2 x3
            clear k1 b1
            go_wp2_with fail
            clear x0 x1 x2 x3
            refine (writeString (w.heap.size + 1) (w.heap.size + 1) _ name _ (Or.inr h1) (by simp [Lib.byteCells_length, Lib.strCells_length]; omega) hs1).mono ?_
            rintro e V2 ⟨rfl, h2, b2, k2⟩
            have hbw2 := hbw1.trans b2
            have hs2 : w.heap.size + 1 ≤ V2.heap.size := Nat.le_trans hs1 b2.size
            have hbx2 := hid ((hbx1.out).kept k2 hq)
            obtain ⟨x0, x1, x2, x3⟩ := hbx2.out.cells
            simp only at x0 x1 x2 x3
            clear k2 b2
            go_wp2
            go_roundw
            case rel =>
              refine ⟨k + 1, by omega, by go_num, ?_, hbw2⟩
              rw [HSN.out, hke, ← List.append_assoc, ← HACC.out]
              have hfin : Lib.IsBuilderF 39 5 (w.heap.size + 1) (w.heap.size + 1) _ V2 := Or.inr h2
              rw [Lib.byteCells_append]
              simpa [ptext, Lib.byteCells, Lib.strCells] using hfin
            case measure => simp [intOf]; omega
          · go_wp2_with fail
            refine (writeByte (w.heap.size + 1) (w.heap.size + 1) _ 44 _ hI' (by simp [Lib.byteCells_length, Lib.strCells_length]; omega) hs0).mono ?_
            rintro e V1 ⟨rfl, h1, b1, k1⟩
            have hbw1 := hbw'.trans b1
            have hs1 : w.heap.size + 1 ≤ V1.heap.size := Nat.le_trans hs0 b1.size
            have hbx1 := hid ((Hbx.out).kept k1 hq)
            obtain ⟨x0, x1, x2, x3⟩ := hbx1.out.cells
            simp only at x0 x1 x2 x3
            clear k1 b1
            go_wp2_with fail
            clear x0 x1 x2 x3
            refine (writeString (w.heap.size + 1) (w.heap.size + 1) _ name _ (Or.inr h1) (by simp [Lib.byteCells_length, Lib.strCells_length]; omega) hs1).mono ?_
            rintro e V2 ⟨rfl, h2, b2, k2⟩
            have hbw2 := hbw1.trans b2
            have hs2 : w.heap.size + 1 ≤ V2.heap.size := Nat.le_trans hs1 b2.size
            have hbx2 := hid ((hbx1.out).kept k2 hq)
            obtain ⟨x0, x1, x2, x3⟩ := hbx2.out.cells
            simp only at x0 x1 x2 x3
            clear k2 b2
            go_wp2_with fail
            clear x0 x1 x2 x3
            refine (writeByte (w.heap.size + 1) (w.heap.size + 1) _ 61 _ (Or.inr h2) (by simp [Lib.byteCells_length, Lib.strCells_length]; omega) hs2).mono ?_
            rintro e V3 ⟨rfl, h3, b3, k3⟩
            have hbw3 := hbw2.trans b3
            have hs3 : w.heap.size + 1 ≤ V3.heap.size := Nat.le_trans hs2 b3.size
            have hbx3 := hid ((hbx2.out).kept k3 hq)
            obtain ⟨x0, x1, x2, x3⟩ := hbx3.out.cells
            simp only at x0 x1 x2 x3
            clear k3 b3
            go_wp2_with fail
            clear x0 x1 x2 x3
            refine (writeString (w.heap.size + 1) (w.heap.size + 1) _ glob _ (Or.inr h3) (by simp [Lib.byteCells_length, Lib.strCells_length]; omega) hs3).mono ?_
            rintro e V4 ⟨rfl, h4, b4, k4⟩
            have hbw4 := hbw3.trans b4
            have hs4 : w.heap.size + 1 ≤ V4.heap.size := Nat.le_trans hs3 b4.size
            have hbx4 := hid ((hbx3.out).kept k4 hq)
            obtain ⟨x0, x1, x2, x3⟩ := hbx4.out.cells
            simp only at x0 x1 x2 x3
            clear k4 b4
            go_wp2
            go_roundw
            case rel =>
              refine ⟨k + 1, by omega, by go_num, ?_, hbw4⟩
              rw [HSN.out, hke, ← List.append_assoc, ← HACC.out]
              have hfin : Lib.IsBuilderF 39 5 (w.heap.size + 1) (w.heap.size + 1) _ V4 := Or.inr h4
              rw [Lib.byteCells_append]
              simpa [ptext, Lib.byteCells, Lib.strCells] using hfin
            case measure => simp [intOf]; omega
          · go_wp2_with fail
            refine (writeByte (w.heap.size + 1) (w.heap.size + 1) _ 44 _ hI' (by simp [Lib.byteCells_length, Lib.strCells_length]; omega) hs0).mono ?_
            rintro e V1 ⟨rfl, h1, b1, k1⟩
            have hbw1 := hbw'.trans b1
            have hs1 : w.heap.size + 1 ≤ V1.heap.size := Nat.le_trans hs0 b1.size
            have hbx1 := hid ((Hbx.out).kept k1 hq)
            obtain ⟨x0, x1, x2, x3⟩ := hbx1.out.cells
            simp only at x0 x1 x2 x3
            clear k1 b1
            go_wp2_with fail
            clear x0 x1 x2 x3
            refine (writeByte (w.heap.size + 1) (w.heap.size + 1) _ 33 _ (Or.inr h1) (by simp [Lib.byteCells_length, Lib.strCells_length]; omega) hs1).mono ?_
            rintro e V2 ⟨rfl, h2, b2, k2⟩
            have hbw2 := hbw1.trans b2
            have hs2 : w.heap.size + 1 ≤ V2.heap.size := Nat.le_trans hs1 b2.size
            have hbx2 := hid ((hbx1.out).kept k2 hq)
            obtain ⟨x0, x1, x2, x3⟩ := hbx2.out.cells
            simp only at x0 x1 x2 x3
            clear k2 b2
            go_wp2_with fail
            clear x0 x1 x2 x3
            refine (writeString (w.heap.size + 1) (w.heap.size + 1) _ name _ (Or.inr h2) (by simp [Lib.byteCells_length, Lib.strCells_length]; omega) hs2).mono ?_
            rintro e V3 ⟨rfl, h3, b3, k3⟩
            have hbw3 := hbw2.trans b3
            have hs3 : w.heap.size + 1 ≤ V3.heap.size := Nat.le_trans hs2 b3.size
            have hbx3 := hid ((hbx2.out).kept k3 hq)
            obtain ⟨x0, x1, x2, x3⟩ := hbx3.out.cells
            simp only at x0 x1 x2 x3
            clear k3 b3
            go_wp2
            go_roundw
            case rel =>
              refine ⟨k + 1, by omega, by go_num, ?_, hbw3⟩
              rw [HSN.out, hke, ← List.append_assoc, ← HACC.out]
              have hfin : Lib.IsBuilderF 39 5 (w.heap.size + 1) (w.heap.size + 1) _ V3 := Or.inr h3
              rw [Lib.byteCells_append]
              simpa [ptext, Lib.byteCells, Lib.strCells] using hfin
            case measure => simp [intOf]; omega
          · go_wp2_with fail
            refine (writeByte (w.heap.size + 1) (w.heap.size + 1) _ 44 _ hI' (by simp [Lib.byteCells_length, Lib.strCells_length]; omega) hs0).mono ?_
            rintro e V1 ⟨rfl, h1, b1, k1⟩
            have hbw1 := hbw'.trans b1
            have hs1 : w.heap.size + 1 ≤ V1.heap.size := Nat.le_trans hs0 b1.size
            have hbx1 := hid ((Hbx.out).kept k1 hq)
            obtain ⟨x0, x1, x2, x3⟩ := hbx1.out.cells
            simp only at x0 x1 x2 x3
            clear k1 b1
            go_wp2_with fail
            clear x0 x1 x2 x3
            refine (writeByte (w.heap.size + 1) (w.heap.size + 1) _ 33 _ (Or.inr h1) (by simp [Lib.byteCells_length, Lib.strCells_length]; omega) hs1).mono ?_
            rintro e V2 ⟨rfl, h2, b2, k2⟩
            have hbw2 := hbw1.trans b2
            have hs2 : w.heap.size + 1 ≤ V2.heap.size := Nat.le_trans hs1 b2.size
            have hbx2 := hid ((hbx1.out).kept k2 hq)
            obtain ⟨x0, x1, x2, x3⟩ := hbx2.out.cells
            simp only at x0 x1 x2 x3
            clear k2 b2
            go_wp2_with fail
            clear x0 x1 x2 x3
            refine (writeString (w.heap.size + 1) (w.heap.size + 1) _ name _ (Or.inr h2) (by simp [Lib.byteCells_length, Lib.strCells_length]; omega) hs2).mono ?_
            rintro e V3 ⟨rfl, h3, b3, k3⟩
            have hbw3 := hbw2.trans b3
            have hs3 : w.heap.size + 1 ≤ V3.heap.size := Nat.le_trans hs2 b3.size
            have hbx3 := hid ((hbx2.out).kept k3 hq)
            obtain ⟨x0, x1, x2, x3⟩ := hbx3.out.cells
            simp only at x0 x1 x2 x3
            clear k3 b3
            go_wp2_with fail
            clear x0 x1 x2 x3
            refine (writeByte (w.heap.size + 1) (w.heap.size + 1) _ 61 _ (Or.inr h3) (by simp [Lib.byteCells_length, Lib.strCells_length]; omega) hs3).mono ?_
            rintro e V4 ⟨rfl, h4, b4, k4⟩
            have hbw4 := hbw3.trans b4
            have hs4 : w.heap.size + 1 ≤ V4.heap.size := Nat.le_trans hs3 b4.size
            have hbx4 := hid ((hbx3.out).kept k4 hq)
            obtain ⟨x0, x1, x2, x3⟩ := hbx4.out.cells
            simp only at x0 x1 x2 x3
            clear k4 b4
            go_wp2_with fail
            clear x0 x1 x2 x3
            refine (writeString (w.heap.size + 1) (w.heap.size + 1) _ glob _ (Or.inr h4) (by simp [Lib.byteCells_length, Lib.strCells_length]; omega) hs4).mono ?_
            rintro e V5 ⟨rfl, h5, b5, k5⟩
            have hbw5 := hbw4.trans b5
            have hs5 : w.heap.size + 1 ≤ V5.heap.size := Nat.le_trans hs4 b5.size
            have hbx5 := hid ((hbx4.out).kept k5 hq)
            obtain ⟨x0, x1, x2, x3⟩ := hbx5.out.cells
            simp only at x0 x1 x2 x3
            clear k5 b5
            go_wp2
            go_roundw
            case rel =>
              refine ⟨k + 1, by omega, by go_num, ?_, hbw5⟩
              rw [HSN.out, hke, ← List.append_assoc, ← HACC.out]
              have hfin : Lib.IsBuilderF 39 5 (w.heap.size + 1) (w.heap.size + 1) _ V5 := Or.inr h5
              rw [Lib.byteCells_append]
              simpa [ptext, Lib.byteCells, Lib.strCells] using hfin
            case measure => simp [intOf]; omega
      · have hke : k = ps.length := by omega
        have hr2 := Hrec.out wr hbw
        have hop : opened (ps.take k) = opened ps := by rw [hke, List.take_length]
        rw [hop] at hI hl0
        have HKE := hid hke
        clear hop hke
        by_cases hz : ps.length = 0
        · have hnil : ps = [] := List.eq_nil_of_length_eq_zero hz
          have HN := hid hnil
          have hz1 : ((ps.length : Nat) : Int) ≤ 0 := by omega
          clear hnil hz
          go_wp2_with fail
          refine (Try.Builder_String_any_k (w.heap.size + 1) (w.heap.size + 1) _ _ hI (Nat.le_of_lt hBs)).mono ?_
          rintro e V1 ⟨rfl, _, b1, _⟩
          go_wp2
          go_ret
          have efin : hd ++ opened ps = text true action ps := by rw [HN.out, Hhd.out]; simp [text, tailT, opened]
          refine ⟨ret_str ?_, Hout.out _ (hbw.trans b1)⟩
          exact efin
        · have hz1 : 0 < ((ps.length : Nat) : Int) := by omega
          have HZ := hid hz
          clear hz
          go_wp2_with fail
          refine (writeByte (w.heap.size + 1) (w.heap.size + 1) _ 41 _ hI (by rw [Lib.byteCells_length]; omega) (Nat.le_of_lt hBs)).mono ?_
          rintro e V1 ⟨rfl, h1, b1, k1⟩
          have hfin : Lib.IsBuilderF 39 5 (w.heap.size + 1) (w.heap.size + 1) (Lib.byteCells (hd ++ opened ps ++ [41])) V1 := by rw [Lib.byteCells_append]; exact Or.inr h1
          have hs1 : w.heap.size + 1 ≤ V1.heap.size := Nat.le_trans (Nat.le_of_lt hBs) b1.size
          have hbw1 := hbw.trans b1
          clear h1 k1 b1 hI
          go_wp2_with fail
          refine (Try.Builder_String_any_k (w.heap.size + 1) (w.heap.size + 1) _ _ hfin hs1).mono ?_
          rintro e V2 ⟨rfl, _, b2, _⟩
          go_wp2
          go_ret
          have efin : hd ++ (opened ps ++ [41]) = text true action ps := by
            have hne : ps.isEmpty = false := by
              cases hps : ps with
              | nil => exact absurd (by rw [hps]; rfl) HZ.out
              | cons _ _ => rfl
            rw [Hhd.out, text, tailT, if_neg (by rw [hne]; exact Bool.false_ne_true)]
          refine ⟨ret_str ?_, Hout.out _ (hbw1.trans b2)⟩
          first | exact efin | (rw [List.append_assoc]; exact efin)
end Go.Proofs.Qxb6630326a.Own
