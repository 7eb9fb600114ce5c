/-
  A part of a row of bytes: v[lo:hi]; three parts anew.
-/
import Derived.Test.YtgomodhhomekpaaDoorM4
import Derived.Test.YtgomodhhomekpaaDoorSl
namespace Go.Proofs.YtgomodhhomekpaaDoor
open Go.RowKit Pu Ar
def mid (v : Value) (lo hi : Nat) : Value := cut (upto v hi) lo
theorem run_mid (w : World) (v : Value) (n cap lo hi : Nat) (q : Option Addr) (hv : v = .slice q n cap) (hn : Nm v) (hl : lo ≤ hi) (hk : hi ≤ cap) :
    (Instr.slice 24 v (some (.int .i64 (lo : Int))) (some (.int .i64 (hi : Int))) none).run Tryd.prog w = .ok (mid v lo hi) w := by
  have hu : Tryd.prog.underlying 24 = some (.slice 5) := Tryd.underlying24
  obtain ⟨i, hi', _, hz1, _⟩ := info_parts infoByte
  have h1 : (hi : Int) ≤ (cap : Int) := by omega
  have h2 : (lo : Int) ≤ (hi : Int) := by omega
  have h3 : (0 : Int) ≤ (lo : Int) := by omega
  rcases hn with e | ⟨b, o, n', c', e⟩
  · rw [hv] at e
    simp only [Value.slice.injEq] at e
    obtain ⟨rfl, rfl, rfl⟩ := e
    obtain rfl : hi = 0 := by omega
    obtain rfl : lo = 0 := by omega
    subst hv
    simp [Instr.slice, run_underlying hu, Instr.sliceBounds, Instr.sliceBound, asIntOf, sizeOf, typeInfo, hi', mid, cut, upto]
  · rw [hv] at e
    simp only [Value.slice.injEq] at e
    obtain ⟨rfl, rfl, rfl⟩ := e
    subst hv
    by_cases hck : cap = lo
    · subst hck
      obtain rfl : hi = cap := by omega
      simp [Instr.slice, run_underlying hu, Instr.sliceBounds, Instr.sliceBound, asIntOf, sizeOf, typeInfo, hi', mid, cut, upto]
    · simp [Instr.slice, run_underlying hu, Instr.sliceBounds, Instr.sliceBound, asIntOf, sizeOf, typeInfo, hi', mid, cut, upto, hck, hz1, h3, add_lit']
      rw [if_pos hk, if_pos hl]
theorem mid_rd {w : World} {v : Value} {l : By} (h : Rd w v l) (hn : Nm v) (lo hi : Nat) (hl : lo ≤ hi) (hk : hi ≤ l.length) : Rd w (mid v lo hi) ((l.take hi).drop lo) ∧ Nm (mid v lo hi) := by
  have h1 := upto_rd h hi hk
  have hn1 : Nm (upto v hi) := by
    rcases hn with e | ⟨b, o, n', c', e⟩
    · subst e
      obtain ⟨p, cap, hv, _⟩ := h
      simp only [Value.slice.injEq] at hv
      obtain ⟨_, h0, _⟩ := hv
      obtain rfl : hi = 0 := by omega
      exact .inl rfl
    · subst e; exact .inr ⟨_, _, _, _, rfl⟩
  have := cut_rd h1 hn1 lo (by rw [List.length_take]; omega)
  exact ⟨this.1, this.2.1⟩
theorem row_at {w : World} {n : Nat} {t : TypeId} {cs : List Value} {arr : Array Value} (hn : n = w.heap.size) (ha : arr = cs.toArray) : Row (w.alloc (.cells arr t)) n t cs := by
  subst hn; subst ha; exact Row.new w t cs
theorem rd_blk {w : World} {n m a b : Nat} {l : By} (h : Rd w (.slice (some ⟨n, 0, none⟩) a b) l) (e : m = n) : Rd w (.slice (some ⟨m, 0, none⟩) a b) l := e ▸ h
theorem prd_at3 {w : World} {n : Nat} {u v t : Value} {x y z : By} (hn : n = w.heap.size) (hu : Rd (w.alloc (.cells #[u, v, t] 24)) u x) (hv : Rd (w.alloc (.cells #[u, v, t] 24)) v y) (ht : Rd (w.alloc (.cells #[u, v, t] 24)) t z) : PRd (w.alloc (.cells #[u, v, t] 24)) (.slice (some ⟨n, 0, none⟩) 3 3) [x, y, z] := by
  subst hn
  refine prd_new (vs := [u, v, t]) rfl (Row.new w 24 [u, v, t]) (Tch.refl _ _) rfl (by simp) ?_
  intro i a b h1 h2
  match i with
  | 0 => simp at h1 h2; subst h1; subst h2; exact hu
  | 1 => simp at h1 h2; subst h1; subst h2; exact hv
  | 2 => simp at h1 h2; subst h1; subst h2; exact ht
  | i + 3 => simp at h1
end Go.Proofs.YtgomodhhomekpaaDoor
