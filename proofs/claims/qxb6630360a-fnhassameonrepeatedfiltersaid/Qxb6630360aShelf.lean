/-
  DERIVED: THE SHELF's CONTRACTS AT THIS DUMP, IN PLAIN WORDS (tools/lay-plain.mjs out of 'TryShelf.lean', which tools/lay-shelf.mjs wrote): THE SAME DECLARATIONS UNDER THE SAME NAMES: 'import', 'namespace', 'open', 'def', 'theorem' AND NOTHING ELSE: no command of the shelf's: FOR A HAND-IN. Each laying: the table of numbers ('.._ren') and one theorem, a field a fact of the dump's own or the kernel's comparison; each contract: ONE APPLICATION.
-/
import Derived.Ground.MnProg
import Derived.Shelf.Bin.LEUint32
import Derived.Shelf.Bin.LEUint32Panics
import Derived.Shelf.Bin.ReadersZ
import Derived.Test.Qxb6630360aProg
namespace Go.Proofs
open Go.Shelf
def Try.laysBin30_ren : Go.Shelf.Ren := ⟨fun | 30 => 11 | n => n, fun | 25 => 37 | 22 => 39 | 29 => 35 | 0 => 0 | 5 => 5 | 45 => 32 | n => n, fun | n => n⟩
theorem Try.laysBin30 : Go.Proofs.LaysBin.n30 Try.prog Try.laysBin30_ren := {
  mixed := by kernel_rfl
  f30 := Try.func11.trans (congrArg some (by kernel_rfl))
  t0 := Try.underlying0
  a0 := Try.isAgg0
  z0 := Try.sizeOf0
  v0 := Try.zeroValue0
  i0 := by kernel_rfl
  t5 := Try.underlying5
  a5 := Try.isAgg5
  z5 := Try.sizeOf5
  v5 := Try.zeroValue5
  i5 := by kernel_rfl
  t22 := Try.underlying39
  a22 := Try.isAgg39
  z22 := Try.sizeOf39
  v22 := Try.zeroValue39
  i22 := by kernel_rfl
  t25 := Try.underlying37
  a25 := Try.isAgg37
  z25 := Try.sizeOf37
  v25 := Try.zeroValue37
  i25 := by kernel_rfl
  t29 := Try.underlying35
  a29 := Try.isAgg35
  z29 := Try.sizeOf35
  v29 := Try.zeroValue35
  i29 := by kernel_rfl
  t45 := Try.underlying32
  a45 := Try.isAgg32
  z45 := Try.sizeOf32
  v45 := Try.zeroValue32
  i45 := by kernel_rfl }
open Go.RowKit in
/-- binary.LittleEndian.Uint32: "Uint32 returns the uint32 representation of b[0:4].": THE NUMBER THAT THE FIRST 4 BYTES SPELL, the least byte first ('Lib.leNat'). Of what was there nothing has turned (the receiver, an empty struct, is laid in a new block without cells; the statement's order is drawn). (LAID: no walk: one application.) -/
theorem Try.binary_LE_Uint32 (g o n c : Nat) (b0 b1 b2 b3 : UInt8) (w : World) (hn : 4 ≤ n) (c0 : w.cell? ⟨g, o, none⟩ = some (.int .u8 b0.toNat)) (c1 : w.cell? ⟨g, o + 1, none⟩ = some (.int .u8 b1.toNat)) (c2 : w.cell? ⟨g, o + 2, none⟩ = some (.int .u8 b2.toNat)) (c3 : w.cell? ⟨g, o + 3, none⟩ = some (.int .u8 b3.toNat)) :
    Calls Try.prog 11 #[.agg #[], .slice (some ⟨g, o, none⟩) n c] w fun e w' => e = .returned (.int .u32 (Lib.leNat [b0, b1, b2, b3])) ∧ Below w.heap.size w w' := Any.binary_LE_Uint32 Try.laysBin30 g o n c b0 b1 b2 b3 w hn c0 c1 c2 c3
open Go.RowKit in
/-- binary.LittleEndian.Uint32, b SHORTER THAN 4: IT PANICS: Go's 'runtime error: index out of range [3] with length n' ('Lib.boundsPanicked'). THE WORLD: the receiver's new block without cells, and the draw of the panic's flag. (LAID: no walk: one application.) -/
theorem Try.binary_LE_Uint32_panics (ao : Option Addr) (n c : Nat) (w : World) (hn : n < 4) (hnil : ao = none → n = 0) :
    Calls Try.prog 11 #[.agg #[], .slice ao n c] w fun e w' => Lib.boundsPanicked Try.prog 3 n e ∧ w' = (w.alloc (.cells #[] 37)).drew := Any.binary_LE_Uint32_panics Try.laysBin30 ao n c w hn hnil
open Go.RowKit in
/-- binary.LittleEndian.Uint32, ITS PREMISES 'open_ints'' CONCLUSION TO THE LETTER: a slice at WHATEVER address a, the numbers zs that its cells hold: THE NUMBER THAT THE FIRST 4 SPELL ('Lib.leZ'). (LAID: no walk: one application.) -/
theorem Try.binary_LE_Uint32_z (a : Addr) (n c : Nat) (zs : List Int) (w : World) (hn : 4 ≤ n) (hl : 4 ≤ zs.length) (hcell : ∀ i, i < zs.length → w.cell? (a.add i) = some (.int .u8 (zs.getD i 0))) (hw : ∀ z ∈ zs, (Lit.int .u8 z).wf = true) :
    Calls Try.prog 11 #[.agg #[], .slice (some a) n c] w fun e w' => e = .returned (.int .u32 (Lib.leZ (zs.take 4))) ∧ Below w.heap.size w w' := Any.binary_LE_Uint32_z Try.laysBin30 a n c zs w hn hl hcell hw
end Go.Proofs
