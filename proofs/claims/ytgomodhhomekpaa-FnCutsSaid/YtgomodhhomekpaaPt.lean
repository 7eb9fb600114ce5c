/-
  Words written as bytes: bePutUint32, bePutUint64.
-/
import Derived.Test.YtgomodhhomekpaaWd
import Derived.Handy
namespace Go.Proofs.Ytgomodhhomekpaa
open Go.RowKit Pu Ar
set_option maxRecDepth 100000 in
theorem put32 (t : TypeId) (g o n c : Nat) (x : UInt32) (cur : List Value) (w : World) (hR : Row w g t cur) (ho : o + 4 ≤ cur.length) (hn : 4 ≤ n) :
    Calls Try.prog 109 #[.slice (some ⟨g, o, none⟩) n c, .int .u32 (iw x)] w fun e w' => e = .returned (.tuple #[]) ∧
      Row w' g t ((((cur.set o (vb (x >>> 24).toUInt8)).set (o + 1) (vb (x >>> 16).toUInt8)).set (o + 2) (vb (x >>> 8).toUInt8)).set (o + 3) (vb x.toUInt8)) ∧ Tch [g] w w' := by
  obtain ⟨y0, c0⟩ : ∃ y, w.cell? ⟨g, o, none⟩ = some y := ⟨_, by rw [hR.cell]; exact List.getElem?_eq_getElem (by omega)⟩
  obtain ⟨y1, c1⟩ : ∃ y, w.cell? ⟨g, o + 1, none⟩ = some y := ⟨_, by rw [hR.cell]; exact List.getElem?_eq_getElem (by omega)⟩
  obtain ⟨y2, c2⟩ : ∃ y, w.cell? ⟨g, o + 2, none⟩ = some y := ⟨_, by rw [hR.cell]; exact List.getElem?_eq_getElem (by omega)⟩
  obtain ⟨y3, c3⟩ : ∃ y, w.cell? ⟨g, o + 3, none⟩ = some y := ⟨_, by rw [hR.cell]; exact List.getElem?_eq_getElem (by omega)⟩
  have f0 := hR.free o
  have f1 := hR.free (o + 1)
  have f2 := hR.free (o + 2)
  have f3 := hR.free (o + 3)
  have e1 := shr32_24 x
  have e2 := shr32_16 x
  have e3 := shr32_8 x
  have e4 := low32
  have hni : (4 : Int) ≤ n := by omega
  have H := Lib.hid hR
  clear hR ho
  go_enter Try.func109, Try.ntmps109
  go_wp2
  go_end0
  exact ⟨rfl, (((H.out.set _ _).set _ _).set _ _).set _ _, Tch.trans (Tch.trans (Tch.trans (Tch.setCell _ _ _ (by simp)) (Tch.setCell _ _ _ (by simp))) (Tch.setCell _ _ _ (by simp))) (Tch.setCell _ _ _ (by simp))⟩
set_option maxHeartbeats 1000000 in
set_option maxRecDepth 100000 in
theorem put64 (t : TypeId) (g o n c : Nat) (x : UInt64) (cur : List Value) (w : World) (hR : Row w g t cur) (ho : o + 8 ≤ cur.length) (hn : 8 ≤ n) :
    Calls Try.prog 108 #[.slice (some ⟨g, o, none⟩) n c, .int .u64 (iq x)] w fun e w' => e = .returned (.tuple #[]) ∧
      Row w' g t ((((((((cur.set o (vb (x >>> 56).toUInt8)).set (o + 1) (vb (x >>> 48).toUInt8)).set (o + 2) (vb (x >>> 40).toUInt8)).set (o + 3) (vb (x >>> 32).toUInt8)).set (o + 4) (vb (x >>> 24).toUInt8)).set (o + 5) (vb (x >>> 16).toUInt8)).set (o + 6) (vb (x >>> 8).toUInt8)).set (o + 7) (vb x.toUInt8)) ∧ Tch [g] w w' := by
  obtain ⟨y0, c0⟩ : ∃ y, w.cell? ⟨g, o, none⟩ = some y := ⟨_, by rw [hR.cell]; exact List.getElem?_eq_getElem (by omega)⟩
  obtain ⟨y1, c1⟩ : ∃ y, w.cell? ⟨g, o + 1, none⟩ = some y := ⟨_, by rw [hR.cell]; exact List.getElem?_eq_getElem (by omega)⟩
  obtain ⟨y2, c2⟩ : ∃ y, w.cell? ⟨g, o + 2, none⟩ = some y := ⟨_, by rw [hR.cell]; exact List.getElem?_eq_getElem (by omega)⟩
  obtain ⟨y3, c3⟩ : ∃ y, w.cell? ⟨g, o + 3, none⟩ = some y := ⟨_, by rw [hR.cell]; exact List.getElem?_eq_getElem (by omega)⟩
  obtain ⟨y4, c4⟩ : ∃ y, w.cell? ⟨g, o + 4, none⟩ = some y := ⟨_, by rw [hR.cell]; exact List.getElem?_eq_getElem (by omega)⟩
  obtain ⟨y5, c5⟩ : ∃ y, w.cell? ⟨g, o + 5, none⟩ = some y := ⟨_, by rw [hR.cell]; exact List.getElem?_eq_getElem (by omega)⟩
  obtain ⟨y6, c6⟩ : ∃ y, w.cell? ⟨g, o + 6, none⟩ = some y := ⟨_, by rw [hR.cell]; exact List.getElem?_eq_getElem (by omega)⟩
  obtain ⟨y7, c7⟩ : ∃ y, w.cell? ⟨g, o + 7, none⟩ = some y := ⟨_, by rw [hR.cell]; exact List.getElem?_eq_getElem (by omega)⟩
  obtain ⟨f, hf⟩ : ∃ f : ∀ i, w.frozen? ⟨g, i, none⟩ = false, True := ⟨fun i => hR.free i, trivial⟩
  have d0 := shr64_56 x
  have d1 := shr64_48 x
  have d2 := shr64_40 x
  have d3 := shr64_32 x
  have d4 := shr64_24 x
  have d5 := shr64_16 x
  have d6 := shr64_8 x
  have d7 := shr64_0 x
  have e4 := low64
  have hni : (8 : Int) ≤ n := by omega
  have H := Lib.hid hR
  clear hR ho hf
  go_enter Try.func108, Try.ntmps108
  go_wp2
  go_rounds 9
  go_end0
  exact ⟨rfl, (((((((H.out.set _ _).set _ _).set _ _).set _ _).set _ _).set _ _).set _ _).set _ _,
    Tch.trans (Tch.trans (Tch.trans (Tch.trans (Tch.trans (Tch.trans (Tch.trans (Tch.setCell _ _ _ (by simp)) (Tch.setCell _ _ _ (by simp))) (Tch.setCell _ _ _ (by simp))) (Tch.setCell _ _ _ (by simp))) (Tch.setCell _ _ _ (by simp))) (Tch.setCell _ _ _ (by simp))) (Tch.setCell _ _ _ (by simp))) (Tch.setCell _ _ _ (by simp))⟩
end Go.Proofs.Ytgomodhhomekpaa
