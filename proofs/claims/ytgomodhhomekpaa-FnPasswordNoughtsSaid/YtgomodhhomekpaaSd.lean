/-
  How many rounds, as the laws count them.
-/
import Derived.Test.YtgomodhhomekpaaM6
namespace Go.Proofs.Ytgomodhhomekpaa
open Go.RowKit Pu Ar
theorem wrap_it (n M : Nat) (h : n < 256) (hM : (n : Int) % 20 = (M : Int)) : IntKind.i64.wrap (1 + (IntKind.i64.wrap (n : Int)).tmod 20) = 1 + (M : Int) := by
  have e1 : IntKind.i64.wrap (n : Int) = n := by rw [IntKind.wrap_i64]; omega
  have e2 : (n : Int).tmod 20 = (M : Int) := by rw [Int.tmod_eq_emod_of_nonneg (by omega)]; exact hM
  rw [e1, e2, IntKind.wrap_i64]; omega
end Go.Proofs.Ytgomodhhomekpaa
