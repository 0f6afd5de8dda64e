/-
  The arguments opened: a slice of 64-bit words; an array of 32 bytes.
-/
import Derived.Test.Qxb6630360aExact
import Derived.ProofKit
import Derived.OpenShut
import Derived.Deep.Slices
namespace Go.Proofs.Qxb6630360a.Own
open Go.ChangeShapes Go.WideShapes Go.ChangeAt Go.RowKit

theorem cells5 : Try.prog.cellsOf 5 = 1 := by kernel_rfl
theorem cells23 : Try.prog.cellsOf 23 = 32 := by kernel_rfl
theorem cells25 : Try.prog.cellsOf 25 = 1 := by kernel_rfl

/-- what the walk is told of the key -/
def IsKey (v : Value) (ks : Array Value) (K : Nat → UInt8) : Prop := v = .agg ks ∧ ks.size = 32 ∧ ∀ j, j < 32 → ks[j]? = some (.int .u8 ((K j).toNat : Nat))

theorem open_key {H : Type} {enc : TypeId × Value → H} {w : World} {r : Reach} {base b0 : Nat} {spare : Nat → Bool} {held : Bool} {v : Value} {d : DataW H} {p : List MemPlace}
    (hv : Value.okWide Try.prog w r b0 23 v) (h : DataW.Trod enc Try.prog w base spare held 23 v d p) : ∃ ks K, IsKey v ks K := by
  simp only [Value.okWide, Try.underlying23] at hv
  obtain ⟨cs, rfl, hsz, _⟩ := hv
  rw [cells23] at hsz
  obtain ⟨fuel, hf⟩ := h
  obtain ⟨xs, m, _, _, hl, hxl, hx⟩ := DataW.trod_array Try.underlying23 hf
  have each : ∀ j, j < 32 → ∃ c : UInt8, cs[j]? = some (.int .u8 (c.toNat : Nat)) := by
    intro j hj
    have h1 := hx j hj
    rw [cells5, Nat.mul_one, List.getElem?_eq_getElem (by omega)] at h1
    obtain ⟨z, e1, _, hz⟩ := DataW.trod_int Try.underlying5 h1
    have hz2 := bounds_u8 hz
    refine ⟨UInt8.ofNat z.toNat, ?_⟩
    have e2 : (Value.cells (.agg cs)).toList = cs.toList := rfl
    rw [e2] at e1
    have e3 : cs.toList[j]? = some (.int .u8 z) := by
      have e4 := congrArg (fun l : List Value => l[0]?) e1
      simpa [List.getElem?_take, List.getElem?_drop] using e4
    have e5 : cs[j]? = some (.int .u8 z) := by simpa using e3
    rw [e5]
    have e6 : (UInt8.ofNat z.toNat).toNat = z.toNat := by
      rw [UInt8.toNat_ofNat']
      exact Nat.mod_eq_of_lt (by omega)
    rw [e6]
    congr 2
    omega
  obtain ⟨K, hK⟩ := @Deep.choose_lt UInt8 ⟨0⟩ 32 _ each
  exact ⟨cs, K, rfl, hsz, hK⟩

/-- what the walk is told of the filter: no element; or words in memory -/
def IsWords (w : World) (v : Value) : Prop := (∃ ao cap, v = .slice ao 0 cap) ∨ ∃ b off n cap F, v = .slice (some ⟨b, off, none⟩) n cap ∧ 1 ≤ n ∧ b < w.heap.size ∧ WordsAt w b off n F

theorem open_words {H : Type} {enc : TypeId × Value → H} {w : World} {spare : Nat → Bool} {held : Bool} {fuel : Nat} {v : Value} {x : DataW H × List MemPlace} (hsp : ∀ b, spare b = true)
    (h : DataW.trod enc Try.prog w 0 spare held fuel 22 [v] = some x) : IsWords w v := by
  rcases open_ints Try.underlying22 Try.underlying25 cells25 h with ⟨hcs, _⟩ | ⟨a, len, cap, zs, hcs, _, hl, hm, hz, _, hcell, hwz⟩
  · simp at hcs
    subst hcs
    exact Or.inl ⟨_, _, rfl⟩
  · simp at hcs
    subst hcs
    by_cases h0 : len = 0
    · subst h0
      exact Or.inl ⟨_, _, rfl⟩
    · rw [hsp] at hz
      simp at hz
      obtain ⟨b, off, rfl, hc⟩ := ints_at hcell (by omega)
      have hlt : b < w.heap.size := by
        have := hc 0 (by omega)
        rcases Nat.lt_or_ge b w.heap.size with h' | h'
        · exact h'
        · simp [World.cell?, Array.getElem?_eq_none h'] at this
      refine Or.inr ⟨b, off, len, cap, fun i => (zs.getD i 0).toNat, rfl, by omega, hlt, fun i hi => ?_, fun i hi => ?_⟩
      · rw [hc i (by omega)]
        have hb := bounds_u64 (hwz (zs.getD i 0) (by rw [List.getD_eq_getElem?_getD, List.getElem?_eq_getElem (by omega)]; exact List.getElem_mem _))
        show some (Value.int .u64 (zs.getD i 0)) = some (Value.int .u64 (((zs.getD i 0).toNat : Nat) : Int))
        congr 2
        omega
      · have hb := bounds_u64 (hwz (zs.getD i 0) (by rw [List.getD_eq_getElem?_getD, List.getElem?_eq_getElem (by omega)]; exact List.getElem_mem _))
        show (zs.getD i 0).toNat < _
        omega

set_option maxHeartbeats 400000 in
theorem exact_big (ao : Option Addr) (n cap : Nat) (ks : Array Value) (w : World) (hsz : ks.size = 32) (h : 131072 < n ∨ n = 0) :
    Calls Try.prog 3 #[.slice ao n cap, .agg ks] w fun e w' => e = .returned (.bool true) ∧ Below w.heap.size w w' := by
  have hl23 : (Try.prog.info? 23).map (·.size) = some ks.size := by rw [hsz]; exact size23
  have hg0 : (w.alloc (.cells ks 23)).heap[w.heap.size]? = some (.cells ks 23 (0, 0)) := heap_alloc_new w _
  have hb0 := (Below.refl _ w).alloc (Nat.le_refl _) (.cells ks 23)
  by_cases hn : 1048576 < n
  · go_enter Try.func3, Try.ntmps3
    go_wp2_with (refine wpList_load_row rfl 23 _ rfl w.heap.size rfl 23 ks (0, 0) _ hg0 Try.underlying23 rfl hl23 ?_)
    refine (bytes5_no _ _ _ _ _ hn).mono ?_
    rintro e W0 ⟨rfl, b0⟩
    have hB := hb0.trans (b0.mono (by simp))
    go_wp2
    go_ret
    exact ⟨rfl, hB⟩
  · rcases h with h | h
    · go_enter Try.func3, Try.ntmps3
      go_wp2_with (refine wpList_load_row rfl 23 _ rfl w.heap.size rfl 23 ks (0, 0) _ hg0 Try.underlying23 rfl hl23 ?_)
      refine (bytes5_yes _ _ _ _ _ (by omega)).mono ?_
      rintro e W0 ⟨rfl, b0⟩
      have hB := hb0.trans (b0.mono (by simp))
      go_wp2
      go_ret
      exact ⟨rfl, hB⟩
    · subst h
      go_enter Try.func3, Try.ntmps3
      go_wp2_with (refine wpList_load_row rfl 23 _ rfl w.heap.size rfl 23 ks (0, 0) _ hg0 Try.underlying23 rfl hl23 ?_)
      refine (bytes5_yes _ _ _ _ _ (by omega)).mono ?_
      rintro e W0 ⟨rfl, b0⟩
      have hB := hb0.trans (b0.mono (by simp))
      go_wp2
      go_ret
      exact ⟨rfl, hB⟩

theorem exact_all (v kv : Value) (ks : Array Value) (K : Nat → UInt8) (w : World) (hv : IsWords w v) (hk : IsKey kv ks K) :
    Calls Try.prog 3 #[v, kv] w fun e w' => e = .returned (.bool true) ∧ Below w.heap.size w w' := by
  obtain ⟨rfl, hsz, hks⟩ := hk
  rcases hv with ⟨ao, cap, rfl⟩ | ⟨b, off, n, cap, F, rfl, h1, hb, hF⟩
  · exact exact_big ao 0 cap ks w hsz (Or.inr rfl)
  · by_cases h2 : n ≤ 131072
    · exact exact_some b off n cap F ks K w hks hsz h1 h2 hb hF
    · exact exact_big _ n cap ks w hsz (Or.inl (by omega))
end Go.Proofs.Qxb6630360a.Own
