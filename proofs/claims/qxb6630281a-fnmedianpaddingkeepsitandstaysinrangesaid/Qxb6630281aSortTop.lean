/-
  slices.Sort at float64 over the library's own text (assembled after the kit's assembly at int), and slices.Sorted(slices.Values(xs)).
-/
import Derived.Sort.AssemblyPlain
import Derived.Sort.OwnSorted
import Derived.Test.Qxb6630281aSortA
import Derived.Test.Qxb6630281aSortA6
import Derived.Test.Qxb6630281aSortA14
import Derived.Test.Qxb6630281aSort7
import Derived.Test.Qxb6630281aSort11
import Derived.Test.Qxb6630281aSortC
import Derived.Test.Qxb6630281aSortC4
import Derived.Test.Qxb6630281aSort13
import Derived.Test.Qxb6630281aIter
namespace Go.Proofs.Qxb6630281a.Own
open Go.Sort Go.RowKit Go.Shelf

theorem callees13 : Callees13 where
  ins := insertionSort_flt
  brk := breakPatterns_flt
  piv := choosePivot_flt
  par := partialInsertionSort_flt
  peq := partitionEqualOrdered_flt
  prt := partitionOrdered_flt

theorem plain13 : Plain13 where
  swo := ltF_swo
  ins := insertionSort_holds
  par := partialInsertionSort_holds
  prt := partition_holds _
  peq := partitionEqual_holds _
  pdq := pdq_sorts _

theorem pdqWalkFlt : pdqWalk_flt := fun blk off cap a b limit d w hH hb hab hbd hsz hl hB =>
  pdqsort_flt callees13 plain13 (b - a + 1) blk off cap a b limit d w (by omega) hH hb hab hbd hsz hl hB

/-- The sorted list of bit patterns. -/
def sorted (zs : List Nat) : List Nat := (Sort.sort ltF zs.toArray).toList

theorem sorted_size (zs : List Nat) : (Sort.sort ltF zs.toArray).size = zs.length := by
  have h := (sort_sorts ltF ltF_swo zs.toArray).1
  simpa using h.1
theorem sorted_length (zs : List Nat) : (sorted zs).length = zs.length := by
  unfold sorted
  rw [Array.length_toList, sorted_size]

theorem sorted_perm (zs : List Nat) : (sorted zs).Perm zs := by
  have h := (sort_sorts ltF ltF_swo zs.toArray).1
  have h2 := h.2.2
  have e1 : (Sort.sort ltF zs.toArray).extract 0 zs.toArray.size = Sort.sort ltF zs.toArray := by
    have := sorted_size zs
    rw [show zs.toArray.size = (Sort.sort ltF zs.toArray).size by rw [this]; simp]
    exact Array.extract_size
  have e2 : zs.toArray.extract 0 zs.toArray.size = zs.toArray := Array.extract_size
  rw [e1, e2] at h2
  exact h2

theorem sorted_pairwise (zs : List Nat) : (sorted zs).Pairwise fun x y => rank x ≤ rank y := by
  have h := (sort_sorts ltF ltF_swo zs.toArray).2
  rw [List.pairwise_iff_getElem]
  intro i j hi hj hij
  have hl := sorted_length zs
  have hs := sorted_size zs
  have h1 := h i j (Nat.zero_le _) hij (by simp; omega)
  rw [getElem!_pos _ i (by omega), getElem!_pos _ j (by omega)] at h1
  have h2 : ¬ rank (Sort.sort ltF zs.toArray)[j] < rank (Sort.sort ltF zs.toArray)[i] := of_decide_eq_false h1
  simp only [sorted, Array.getElem_toList]
  omega

/-- slices.Sort at []float64. -/
theorem slices_Sort_flt (blk off cap : Nat) (zs : List Nat) (w : World) (hH : Holds (Value.float .f64) w blk off zs.toArray) (hblk : blk < w.heap.size) (hsz : zs.length < 4611686018427387904) :
    Calls Try.prog 14 #[.slice (some ⟨blk, off, none⟩) zs.length cap] w fun e w' =>
      e = .returned (.tuple #[]) ∧ ∃ n os, w' = grow (putRow (Value.float .f64) (Sort.ahead w n) blk off (sorted zs).toArray) os := by
  have h := Sort_flt pdqWalkFlt blk off cap zs.toArray w hH hblk (by simpa using hsz)
  simpa [sorted] using h

theorem holds_of_block_flt {w : World} {g : Nat} {cur : Array Value} {e : TypeId} {zs : List Nat} (hb : w.heap[g]? = some (.cells cur e (0, 0))) (ht : cur.toList.take zs.length = zs.map (Value.float .f64)) : Holds (Value.float .f64) w g 0 zs.toArray := by
  intro j hj
  have hj' : j < zs.length := by simpa using hj
  refine ⟨?_, by simp [World.frozen?, hb]⟩
  have h1 : (cur.toList.take zs.length)[j]? = (zs.map (Value.float .f64))[j]? := by rw [ht]
  rw [List.getElem?_take_of_lt hj'] at h1
  simp only [World.cell?, hb, Nat.zero_add]
  simp only [Option.isSome_none, Bool.false_eq_true, if_false]
  rw [← Array.getElem?_toList, h1]
  simp [hj']

theorem grownBy_sorted_flt {w : World} {g n : Nat} {os : Array Obj} (d : Array Nat) : w.grownBy (grow (putRow (Value.float .f64) (Sort.ahead w n) g 0 d) os) (some g) := by
  refine ⟨rfl, rfl, rfl, by simp, fun k hk hne => ?_⟩
  rw [heap_grow_old _ _ (by simpa using hk)]
  have : g ≠ k := fun e => hne (by rw [e])
  simp [putRow, mapBlock, Sort.ahead, Array.getElem?_modify, this]

set_option maxRecDepth 100000 in
set_option maxHeartbeats 2000000 in
/-- slices.Sorted(seq): a new slice that holds what the iterator gave, sorted. -/
theorem sorted_in (g : Nat) (lb : Array Value) (eg : ∀ args w, (callFunc g args).run Try.prog w = .ok (.enter g args) w)
    (zs : List Nat) (hne : zs ≠ []) (hlen : zs.length ≤ 17592186044416) (w : World)
    (hseq : ∀ W, Below w.heap.size w W → SeqStopsK Fence.wide 1 Try.prog g lb (fun x : Nat => #[Value.float .f64 x]) (Below w.heap.size) (fun ys => ys = zs) (fun pre => pre <+: zs) zs.length W) :
    CallsIn Fence.wide 4 Try.prog 10 #[.func (.func g) #[] lb] w fun e w' => ∃ gb cap, e = .returned (.slice (some ⟨gb, 0, none⟩) zs.length cap) ∧ w.heap.size ≤ gb ∧ Holds (Value.float .f64) w' gb 0 (sorted zs).toArray ∧ Below w.heap.size w w' := by
  have h1 : 1 ≤ 4 := by omega
  refine callsIn_of_wp Try.func10 rfl trivial ?_ rfl
  simp only [Try.ntmps10, List.size_toArray, List.length_cons, List.length_nil, Nat.reduceAdd, Nat.reduceSub, Array.replicate_succ, Array.replicate_zero, List.push_toArray, List.append_toArray, List.nil_append, List.cons_append]
  gi_wp2_with (refine ⟨trivial, ?_⟩; gi_at_call 13; refine (collect_in Fence.wide 3 trivial trivial rfl (by omega) g lb trivial eg zs (by unfold maxLen; omega) (by omega) _ hseq).mono ?_; rintro e W ⟨v, rfl, hrow, hnil, hb⟩)
  rcases hrow.2 with ⟨rfl, hz⟩ | ⟨gb, cap, cur, rfl, hbase, hgb, r1, r2, r3, r4⟩
  · exact absurd (hnil.1 rfl) hne
  · have hH : Holds (Value.float .f64) W gb 0 zs.toArray := holds_of_block_flt hgb (by simpa using r4)
    have hgl : gb < W.heap.size := (Array.getElem?_eq_some_iff.1 hgb).1
    have cS := callsIn_wide (n := 3) |>.2 (slices_Sort_flt gb 0 cap zs W hH hgl (by omega))
    gi_wp2_with (refine ⟨trivial, ?_⟩; gi_at_call 14; refine cS.mono ?_; rintro e w' ⟨rfl, nn, os, rfl⟩)
    go_ret
    exact ⟨gb, cap, rfl, hbase, holds_grow _ _ _ _ _ _ (by simpa using hgl) (holds_putRow _ _ _ _ zs.toArray _ (holds_ahead _ _ _ _ _ _ hH) (by simp [sorted_length])), hb.grown (grownBy_sorted_flt _) hb.size (fun j hj => by cases hj; exact hbase)⟩

end Go.Proofs.Qxb6630281a.Own
