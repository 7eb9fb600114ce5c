/-
  Slices of what came in; slices of slices that have just been made.
-/
import Derived.Test.YtgomodhhomekpaaDoorM4
import Derived.Test.YtgomodhhomekpaaDoorSs
import Derived.Test.YtgomodhhomekpaaDoorPl
namespace Go.Proofs.YtgomodhhomekpaaDoor
open Go.RowKit Pu Ar
theorem rd_ex {w : World} {v : Value} {l : By} (h : Rd w v l) : ∃ p cap, v = .slice p l.length cap := by
  obtain ⟨p, cap, hv, _⟩ := h; exact ⟨p, cap, hv⟩
/-- A slice of slices that has just been made. -/
theorem prd_new {w w1 : World} {b : Nat} {vs : List Value} {ps : List By} {n : Nat} (hn : n = ps.length) (hr : Row w1 b 24 vs) (k : Tch [] w w1) (hl : vs.length = ps.length) (hm : ps.length ≤ 1000) (h : ∀ (i : Nat) (u : Value) (x : By), vs[i]? = some u → ps[i]? = some x → Rd w u x) :
    PRd w1 (.slice (some ⟨b, 0, none⟩) n n) ps := by
  subst hn
  refine ⟨_, _, rfl, Nat.le_refl _, by unfold maxLen; omega, .inr ⟨b, 0, rfl, fun i x hx => ?_⟩⟩
  have hi : i < ps.length := by
    rcases Nat.lt_or_ge i ps.length with h | h
    · exact h
    · rw [List.getElem?_eq_none h] at hx; cases hx
  have e := List.getElem?_eq_getElem (l := vs) (show i < vs.length by omega)
  refine ⟨_, by rw [hr.cell, Nat.zero_add]; exact e, (h i _ x e hx).tchNil k⟩
theorem prd_three {w : World} {u v t : Value} {x y z : By} (hu : Rd w u x) (hv : Rd w v y) (ht : Rd w t z) : PRd (w.alloc (.cells #[u, v, t] 24)) (.slice (some ⟨w.heap.size, 0, none⟩) 3 3) [x, y, z] := by
  refine prd_new (vs := [u, v, t]) rfl (Row.new w 24 [u, v, t]) (Tch.alloc _ _) rfl (by simp) ?_
  intro i a b h1 h2
  match i with
  | 0 => simp at h1 h2; subst h1; subst h2; exact hu
  | 1 => simp at h1 h2; subst h1; subst h2; exact hv
  | 2 => simp at h1 h2; subst h1; subst h2; exact ht
  | i + 3 => simp at h1
theorem prd_two {w : World} {u v : Value} {x y : By} (hu : Rd w u x) (hv : Rd w v y) : PRd (w.alloc (.cells #[u, v] 24)) (.slice (some ⟨w.heap.size, 0, none⟩) 2 2) [x, y] := by
  refine prd_new (vs := [u, v]) rfl (Row.new w 24 [u, v]) (Tch.alloc _ _) rfl (by simp) ?_
  intro i a b h1 h2
  match i with
  | 0 => simp at h1 h2; subst h1; subst h2; exact hu
  | 1 => simp at h1 h2; subst h1; subst h2; exact hv
  | i + 2 => simp at h1
theorem prd_one {w : World} {u : Value} {x : By} (hu : Rd w u x) : PRd (w.alloc (.cells #[u] 24)) (.slice (some ⟨w.heap.size, 0, none⟩) 1 1) [x] := by
  refine prd_new (vs := [u]) rfl (Row.new w 24 [u]) (Tch.alloc _ _) rfl (by simp) ?_
  intro i a b h1 h2
  match i with
  | 0 => simp at h1 h2; subst h1; subst h2; exact hu
  | i + 1 => simp at h1
end Go.Proofs.YtgomodhhomekpaaDoor
