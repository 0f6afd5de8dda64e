/-
  Law 2 at every argument.
-/
import Derived.Test.Qxb6630281aOpen
import Derived.Test.Qxb6630281aPlain2
namespace Go.Proofs.Qxb6630281a.Own
open Go.RowKit
theorem law2_all (v : Value) (A B : Nat) (w : World) (h : IsFlts w v) : Calls Try.prog 4 #[v, .float .f64 A, .float .f64 B] w fun e w' => e = .returned (.bool true) ∧ Below w.heap.size w w' := by
  rcases h with ⟨ao, cap, rfl⟩ | ⟨b, off, n, cap, G, rfl, h1, h2, hb, hG, _⟩
  · exact law2_big ao 0 cap A B w (by omega) (.inr (.inl rfl))
  · by_cases hn : n ≤ 65536
    · cases hA : isNaNB A
      · cases hB : isNaNB B
        · exact law2_some law2 b off n cap A B G w h1 hn hb hG hA hB
        · exact law2_big _ n cap A B w h2 (.inr (.inr ⟨hn, by omega, .inr ⟨hA, hB⟩⟩))
      · exact law2_big _ n cap A B w h2 (.inr (.inr ⟨hn, by omega, .inl hA⟩))
    · exact law2_big _ n cap A B w h2 (.inl (by omega))
end Go.Proofs.Qxb6630281a.Own
