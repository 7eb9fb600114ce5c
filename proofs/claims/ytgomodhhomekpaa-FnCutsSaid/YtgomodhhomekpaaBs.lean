/-
  blockGeneric: the eight words are stored.
-/
import Derived.Test.YtgomodhhomekpaaBo
namespace Go.Proofs.Ytgomodhhomekpaa
open Go.RowKit Pu Ar
set_option maxHeartbeats 8000000 in
set_option maxRecDepth 100000 in
theorem bgStore (a : Act) (w : World) (h : Frm 283 a) (R : Ending → World → Prop) (b : Nat) (s : S8) (g0 : G a 0 = .pointer (some ⟨b, 0, none⟩))
    (g5 : G a 5 = .int .u32 (iw s.a)) (g6 : G a 6 = .int .u32 (iw s.b)) (g7 : G a 7 = .int .u32 (iw s.c)) (g8 : G a 8 = .int .u32 (iw s.d))
    (g9 : G a 9 = .int .u32 (iw s.e)) (g10 : G a 10 = .int .u32 (iw s.f)) (g11 : G a 11 = .int .u32 (iw s.g)) (g12 : G a 12 = .int .u32 (iw s.h))
    (hc : ∀ j, j < 8 → ∃ y, w.cell? ⟨b, j, none⟩ = some y) (hf : ∀ j, w.frozen? ⟨b, j, none⟩ = false)
    (hQ : ∀ a' w', w' = ((((((((w.setCell ⟨b, 0, none⟩ (.int .u32 (iw s.a))).setCell ⟨b, 1, none⟩ (.int .u32 (iw s.b))).setCell ⟨b, 2, none⟩ (.int .u32 (iw s.c))).setCell ⟨b, 3, none⟩ (.int .u32 (iw s.d))).setCell ⟨b, 4, none⟩ (.int .u32 (iw s.e))).setCell ⟨b, 5, none⟩ (.int .u32 (iw s.f))).setCell ⟨b, 6, none⟩ (.int .u32 (iw s.g))).setCell ⟨b, 7, none⟩ (.int .u32 (iw s.h))).drew ∧ a'.defers = [] → bodyPost Try.prog Try.f112 R .normal a' w') :
    (part (bodyOf Try.f112) [true, true, true]).wp Try.prog (bodyPost Try.prog Try.f112 R) a w := by
  obtain ⟨y0, c0⟩ := hc 0 (by omega)
  obtain ⟨y1, c1⟩ := hc 1 (by omega)
  obtain ⟨y2, c2⟩ := hc 2 (by omega)
  obtain ⟨y3, c3⟩ := hc 3 (by omega)
  obtain ⟨y4, c4⟩ := hc 4 (by omega)
  obtain ⟨y5, c5⟩ := hc 5 (by omega)
  obtain ⟨y6, c6⟩ := hc 6 (by omega)
  obtain ⟨y7, c7⟩ := hc 7 (by omega)
  conv => arg 2; whnf
  rw [lit283 a h]
  simp only [g0, g5, g6, g7, g8, g9, g10, g11, g12]
  clear h g0 g5 g6 g7 g8 g9 g10 g11 g12 hc
  go_region
  go_wp2
  exact hQ _ _ ⟨rfl, rfl⟩
end Go.Proofs.Ytgomodhhomekpaa
