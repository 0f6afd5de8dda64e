/- The library's sort at float64 over this program: the kit's walk at int (Derived/Sort/Walk13a), turned by program to this dump's functions and elements. -/
import Derived.Sort.Grow
import Derived.Sort.LotD3
namespace Go.Sort
variable {α : Type} [Inhabited α]

def At (enc : α → Value) (w : World) (blk off : Nat) (d : Array α) (wr : World) : Prop := ∃ n os, wr = grow (putRow enc (ahead w n) blk off d) os

section
variable {enc : α → Value} {w wr w1 : World} {blk off : Nat} {d d' d0 : Array α}

theorem At.refl (h : Holds enc w blk off d) : At enc w blk off d w := ⟨0, #[], by rw [grow_empty, ahead_zero, putRow_self enc w blk off d h]⟩

theorem At.holds (h : At enc w blk off d wr) (h0 : Holds enc w blk off d0) (hs : d.size = d0.size) (hb : blk < w.heap.size) : Holds enc wr blk off d ∧ blk < wr.heap.size := by
  obtain ⟨n, os, rfl⟩ := h
  exact ⟨holds_grow enc _ os blk off d (by simpa using hb) (holds_putRow enc _ blk off d0 d (holds_ahead enc w n blk off d0 h0) hs), by simp; omega⟩

theorem At.step (h : At enc w blk off d wr) (hb : blk < w.heap.size) (hs : d'.size = d.size) (h1 : ∃ m, w1 = putRow enc (ahead wr m) blk off d') : At enc w blk off d' w1 := by
  obtain ⟨n, os, rfl⟩ := h
  obtain ⟨m, rfl⟩ := h1
  exact ⟨n + m, os, grow_step enc w os n m blk off d d' hb hs⟩

theorem At.stepG (h : At enc w blk off d wr) (hb : blk < w.heap.size) (hs : d'.size = d.size) (h1 : ∃ m os', w1 = grow (putRow enc (ahead wr m) blk off d') os') : At enc w blk off d' w1 := by
  obtain ⟨n, os, rfl⟩ := h
  obtain ⟨m, os', rfl⟩ := h1
  exact ⟨n + m, os ++ os', grow_step_grow enc w os os' n m blk off d d' hb hs⟩

theorem At.same (h : At enc w blk off d wr) (h0 : Holds enc w blk off d0) (hs : d.size = d0.size) (hb : blk < w.heap.size) (h1 : ∃ m os', w1 = grow (ahead wr m) os') : At enc w blk off d w1 := by
  obtain ⟨m, os', rfl⟩ := h1
  refine h.stepG hb rfl ⟨m, os', ?_⟩
  rw [putRow_self enc (ahead wr m) blk off d (holds_ahead enc wr m blk off d (h.holds h0 hs hb).1)]

theorem At.ahead (h : At enc w blk off d wr) (m : Nat) : At enc w blk off d (ahead wr m) := by
  obtain ⟨n, os, rfl⟩ := h
  exact ⟨n + m, os, by rw [← ahead_ahead]; rfl⟩
end

section
variable (lt : α → α → Bool)

structure Rd (α : Type) where
  d1 : Array α
  lim : Nat
  c : Nat × Hint
  d2 : Array α
  pivot : Nat
  hint : Hint
  pi : Array α × Bool

def rd (d : Array α) (a b limit : Nat) (wb wp : Bool) : Rd α :=
  let d1 := if !wb then breakPatterns d a b else d
  let c := choosePivot lt d1 a b
  let d2 := if c.2 = .decreasing then reverseRange d1 a b else d1
  let hint := if c.2 = .decreasing then Hint.increasing else c.2
  { d1 := d1, lim := if !wb then limit - 1 else limit, c := c, d2 := d2, pivot := if c.2 = .decreasing then (b - 1) - (c.1 - a) else c.1, hint := hint,
    pi := if wb && wp && hint = .increasing then partialInsertionSort lt d2 a b else (d2, false) }

variable {lt} {d : Array α} {a b limit : Nat} {wb wp : Bool}

theorem pdq_unfold : pdq lt d a b limit wb wp =
    if b - a ≤ 12 then insertionSort lt d a b else
    if limit = 0 then heapSort lt d a b else
    if (rd lt d a b limit wb wp).pi.2 = true then (rd lt d a b limit wb wp).pi.1 else
    if (decide (a > 0) && !lt (rd lt d a b limit wb wp).pi.1[a - 1]! (rd lt d a b limit wb wp).pi.1[(rd lt d a b limit wb wp).pivot]!) = true then
      (if a < (partitionEqual lt (rd lt d a b limit wb wp).pi.1 a b (rd lt d a b limit wb wp).pivot).1 ∧ (partitionEqual lt (rd lt d a b limit wb wp).pi.1 a b (rd lt d a b limit wb wp).pivot).1 ≤ b then pdq lt (partitionEqual lt (rd lt d a b limit wb wp).pi.1 a b (rd lt d a b limit wb wp).pivot).2 (partitionEqual lt (rd lt d a b limit wb wp).pi.1 a b (rd lt d a b limit wb wp).pivot).1 b (rd lt d a b limit wb wp).lim wb wp else (partitionEqual lt (rd lt d a b limit wb wp).pi.1 a b (rd lt d a b limit wb wp).pivot).2)
    else
      (if a ≤ (partition lt (rd lt d a b limit wb wp).pi.1 a b (rd lt d a b limit wb wp).pivot).1 ∧ (partition lt (rd lt d a b limit wb wp).pi.1 a b (rd lt d a b limit wb wp).pivot).1 < b then
        (if (partition lt (rd lt d a b limit wb wp).pi.1 a b (rd lt d a b limit wb wp).pivot).1 - a < b - (partition lt (rd lt d a b limit wb wp).pi.1 a b (rd lt d a b limit wb wp).pivot).1 then
          pdq lt (pdq lt (partition lt (rd lt d a b limit wb wp).pi.1 a b (rd lt d a b limit wb wp).pivot).2.2 a (partition lt (rd lt d a b limit wb wp).pi.1 a b (rd lt d a b limit wb wp).pivot).1 (rd lt d a b limit wb wp).lim true true) ((partition lt (rd lt d a b limit wb wp).pi.1 a b (rd lt d a b limit wb wp).pivot).1 + 1) b (rd lt d a b limit wb wp).lim (decide ((partition lt (rd lt d a b limit wb wp).pi.1 a b (rd lt d a b limit wb wp).pivot).1 - a ≥ (b - a) / 8)) (partition lt (rd lt d a b limit wb wp).pi.1 a b (rd lt d a b limit wb wp).pivot).2.1
        else
          pdq lt (pdq lt (partition lt (rd lt d a b limit wb wp).pi.1 a b (rd lt d a b limit wb wp).pivot).2.2 ((partition lt (rd lt d a b limit wb wp).pi.1 a b (rd lt d a b limit wb wp).pivot).1 + 1) b (rd lt d a b limit wb wp).lim true true) a (partition lt (rd lt d a b limit wb wp).pi.1 a b (rd lt d a b limit wb wp).pivot).1 (rd lt d a b limit wb wp).lim (decide (b - (partition lt (rd lt d a b limit wb wp).pi.1 a b (rd lt d a b limit wb wp).pivot).1 ≥ (b - a) / 8)) (partition lt (rd lt d a b limit wb wp).pi.1 a b (rd lt d a b limit wb wp).pivot).2.1)
      else (partition lt (rd lt d a b limit wb wp).pi.1 a b (rd lt d a b limit wb wp).pivot).2.2) := by
  rw [pdq]
  rfl

theorem pdq_small (h : b - a ≤ 12) : pdq lt d a b limit wb wp = insertionSort lt d a b := by rw [pdq_unfold, if_pos h]
theorem pdq_heap (h : ¬ b - a ≤ 12) (h0 : limit = 0) : pdq lt d a b limit wb wp = heapSort lt d a b := by rw [pdq_unfold, if_neg h, if_pos h0]
theorem pdq_done (h : ¬ b - a ≤ 12) (h0 : ¬ limit = 0) (h1 : (rd lt d a b limit wb wp).pi.2 = true) : pdq lt d a b limit wb wp = (rd lt d a b limit wb wp).pi.1 := by rw [pdq_unfold, if_neg h, if_neg h0, if_pos h1]
theorem pdq_eq (h : ¬ b - a ≤ 12) (h0 : ¬ limit = 0) (h1 : (rd lt d a b limit wb wp).pi.2 = false) (h2 : (decide (a > 0) && !lt (rd lt d a b limit wb wp).pi.1[a - 1]! (rd lt d a b limit wb wp).pi.1[(rd lt d a b limit wb wp).pivot]!) = true) (h3 : a < (partitionEqual lt (rd lt d a b limit wb wp).pi.1 a b (rd lt d a b limit wb wp).pivot).1 ∧ (partitionEqual lt (rd lt d a b limit wb wp).pi.1 a b (rd lt d a b limit wb wp).pivot).1 ≤ b) :
    pdq lt d a b limit wb wp = pdq lt (partitionEqual lt (rd lt d a b limit wb wp).pi.1 a b (rd lt d a b limit wb wp).pivot).2 (partitionEqual lt (rd lt d a b limit wb wp).pi.1 a b (rd lt d a b limit wb wp).pivot).1 b (rd lt d a b limit wb wp).lim wb wp := by
  rw [pdq_unfold, if_neg h, if_neg h0, if_neg (by rw [h1]; exact Bool.false_ne_true), if_pos h2, if_pos h3]
theorem pdq_left (h : ¬ b - a ≤ 12) (h0 : ¬ limit = 0) (h1 : (rd lt d a b limit wb wp).pi.2 = false) (h2 : (decide (a > 0) && !lt (rd lt d a b limit wb wp).pi.1[a - 1]! (rd lt d a b limit wb wp).pi.1[(rd lt d a b limit wb wp).pivot]!) = false) (h3 : a ≤ (partition lt (rd lt d a b limit wb wp).pi.1 a b (rd lt d a b limit wb wp).pivot).1 ∧ (partition lt (rd lt d a b limit wb wp).pi.1 a b (rd lt d a b limit wb wp).pivot).1 < b) (h4 : (partition lt (rd lt d a b limit wb wp).pi.1 a b (rd lt d a b limit wb wp).pivot).1 - a < b - (partition lt (rd lt d a b limit wb wp).pi.1 a b (rd lt d a b limit wb wp).pivot).1) :
    pdq lt d a b limit wb wp = pdq lt (pdq lt (partition lt (rd lt d a b limit wb wp).pi.1 a b (rd lt d a b limit wb wp).pivot).2.2 a (partition lt (rd lt d a b limit wb wp).pi.1 a b (rd lt d a b limit wb wp).pivot).1 (rd lt d a b limit wb wp).lim true true) ((partition lt (rd lt d a b limit wb wp).pi.1 a b (rd lt d a b limit wb wp).pivot).1 + 1) b (rd lt d a b limit wb wp).lim (decide ((partition lt (rd lt d a b limit wb wp).pi.1 a b (rd lt d a b limit wb wp).pivot).1 - a ≥ (b - a) / 8)) (partition lt (rd lt d a b limit wb wp).pi.1 a b (rd lt d a b limit wb wp).pivot).2.1 := by
  rw [pdq_unfold, if_neg h, if_neg h0, if_neg (by rw [h1]; exact Bool.false_ne_true), if_neg (by rw [h2]; exact Bool.false_ne_true), if_pos h3, if_pos h4]
theorem pdq_right (h : ¬ b - a ≤ 12) (h0 : ¬ limit = 0) (h1 : (rd lt d a b limit wb wp).pi.2 = false) (h2 : (decide (a > 0) && !lt (rd lt d a b limit wb wp).pi.1[a - 1]! (rd lt d a b limit wb wp).pi.1[(rd lt d a b limit wb wp).pivot]!) = false) (h3 : a ≤ (partition lt (rd lt d a b limit wb wp).pi.1 a b (rd lt d a b limit wb wp).pivot).1 ∧ (partition lt (rd lt d a b limit wb wp).pi.1 a b (rd lt d a b limit wb wp).pivot).1 < b) (h4 : ¬ (partition lt (rd lt d a b limit wb wp).pi.1 a b (rd lt d a b limit wb wp).pivot).1 - a < b - (partition lt (rd lt d a b limit wb wp).pi.1 a b (rd lt d a b limit wb wp).pivot).1) :
    pdq lt d a b limit wb wp = pdq lt (pdq lt (partition lt (rd lt d a b limit wb wp).pi.1 a b (rd lt d a b limit wb wp).pivot).2.2 ((partition lt (rd lt d a b limit wb wp).pi.1 a b (rd lt d a b limit wb wp).pivot).1 + 1) b (rd lt d a b limit wb wp).lim true true) a (partition lt (rd lt d a b limit wb wp).pi.1 a b (rd lt d a b limit wb wp).pivot).1 (rd lt d a b limit wb wp).lim (decide (b - (partition lt (rd lt d a b limit wb wp).pi.1 a b (rd lt d a b limit wb wp).pivot).1 ≥ (b - a) / 8)) (partition lt (rd lt d a b limit wb wp).pi.1 a b (rd lt d a b limit wb wp).pivot).2.1 := by
  rw [pdq_unfold, if_neg h, if_neg h0, if_neg (by rw [h1]; exact Bool.false_ne_true), if_neg (by rw [h2]; exact Bool.false_ne_true), if_pos h3, if_neg h4]

theorem rd_false : (rd lt d a b limit false wp).d1 = breakPatterns d a b ∧ (rd lt d a b limit false wp).lim = limit - 1 := ⟨rfl, rfl⟩
theorem rd_true : (rd lt d a b limit true wp).d1 = d ∧ (rd lt d a b limit true wp).lim = limit := ⟨rfl, rfl⟩
theorem rd_c : (rd lt d a b limit wb wp).c = choosePivot lt (rd lt d a b limit wb wp).d1 a b := rfl
theorem rd_dec (hh : (rd lt d a b limit wb wp).c.2 = .decreasing) :
    (rd lt d a b limit wb wp).d2 = reverseRange (rd lt d a b limit wb wp).d1 a b ∧ (rd lt d a b limit wb wp).pivot = (b - 1) - ((rd lt d a b limit wb wp).c.1 - a) ∧ (rd lt d a b limit wb wp).hint = .increasing := ⟨if_pos hh, if_pos hh, if_pos hh⟩
theorem rd_not (hh : (rd lt d a b limit wb wp).c.2 ≠ .decreasing) :
    (rd lt d a b limit wb wp).d2 = (rd lt d a b limit wb wp).d1 ∧ (rd lt d a b limit wb wp).pivot = (rd lt d a b limit wb wp).c.1 ∧ (rd lt d a b limit wb wp).hint = (rd lt d a b limit wb wp).c.2 := ⟨if_neg hh, if_neg hh, if_neg hh⟩
theorem rd_pi_yes (hc : (wb && wp && decide ((rd lt d a b limit wb wp).hint = .increasing)) = true) : (rd lt d a b limit wb wp).pi = partialInsertionSort lt (rd lt d a b limit wb wp).d2 a b := if_pos hc
theorem rd_pi_no (hc : (wb && wp && decide ((rd lt d a b limit wb wp).hint = .increasing)) = false) : (rd lt d a b limit wb wp).pi = ((rd lt d a b limit wb wp).d2, false) := if_neg (fun h => Bool.false_ne_true (hc.symm.trans h))

theorem rd_lim_le : (rd lt d a b limit wb wp).lim ≤ limit := by
  show (if (!wb) = true then limit - 1 else limit) ≤ limit
  split <;> omega

theorem rd_facts (h : SWO lt) (hpi : partialInsertionSort_stmt lt) (hrev : reverseRange_stmt α) (hab : a < b) (hb : b ≤ d.size) (hB : Below lt a b d) :
    (rd lt d a b limit wb wp).d1.size = d.size ∧ Below lt a b (rd lt d a b limit wb wp).d1 ∧ (a ≤ (rd lt d a b limit wb wp).c.1 ∧ (rd lt d a b limit wb wp).c.1 < b) ∧
    (rd lt d a b limit wb wp).d2.size = d.size ∧ Below lt a b (rd lt d a b limit wb wp).d2 ∧ (a ≤ (rd lt d a b limit wb wp).pivot ∧ (rd lt d a b limit wb wp).pivot < b) ∧
    (rd lt d a b limit wb wp).pi.1.size = d.size ∧ Below lt a b (rd lt d a b limit wb wp).pi.1 := by
  have p1 : PermIn a b d (rd lt d a b limit wb wp).d1 := step_break d (Nat.le_of_lt hab) hb ((!wb) = true)
  have s1 := p1.1
  have B1 := hB.perm hb p1
  have c1 : a ≤ (rd lt d a b limit wb wp).c.1 ∧ (rd lt d a b limit wb wp).c.1 < b := choosePivot_holds lt (rd lt d a b limit wb wp).d1 a b hab
  have p2 : PermIn a b (rd lt d a b limit wb wp).d1 (rd lt d a b limit wb wp).d2 := step_reverse hrev (rd lt d a b limit wb wp).d1 (Nat.le_of_lt hab) (by rw [s1]; exact hb) ((rd lt d a b limit wb wp).c.2 = .decreasing)
  have s2 := p2.1.trans s1
  have B2 := B1.perm (by rw [s1]; exact hb) p2
  have pv : a ≤ (rd lt d a b limit wb wp).pivot ∧ (rd lt d a b limit wb wp).pivot < b := pivot_range c1.1 c1.2 ((rd lt d a b limit wb wp).c.2 = .decreasing)
  have p3 : PermIn a b (rd lt d a b limit wb wp).d2 (rd lt d a b limit wb wp).pi.1 := (step_partial hpi h (rd lt d a b limit wb wp).d2 hab (by rw [s2]; exact hb) B2 ((wb && wp && decide ((rd lt d a b limit wb wp).hint = .increasing)) = true)).1
  exact ⟨s1, B1, c1, s2, B2, pv, p3.1.trans s2, B2.perm (by rw [s2]; exact hb) p3⟩
end

end Go.Sort
