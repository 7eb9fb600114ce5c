/-
  Two parts, just made, whatever is made behind.
-/
import Derived.Test.YtgomodhhomekpaaM6
import Derived.Test.YtgomodhhomekpaaSb
namespace Go.Proofs.Ytgomodhhomekpaa
open Go.RowKit Pu Ar
theorem prd_at2' {w0 w : World} {n : Nat} {u v : Value} {x y : By} (hn : n = w0.heap.size) (k : Tch [] (w0.alloc (.cells #[u, v] 24)) w) (hu : Rd w u x) (hv : Rd (w0.alloc (.cells #[u, v] 24)) v y) : PRd w (.slice (some ⟨n, 0, none⟩) 2 2) [x, y] := by
  subst hn
  refine prd_new (vs := [u, v]) rfl ((Row.new w0 24 [u, v]).tch k (by simp)) (Tch.refl _ _) rfl (by simp) ?_
  intro i a b h1 h2
  match i with
  | 0 => simp at h1 h2; subst h1; subst h2; exact hu
  | 1 => simp at h1 h2; subst h1; subst h2; exact hv.tchNil k
  | i + 2 => simp at h1
end Go.Proofs.Ytgomodhhomekpaa
