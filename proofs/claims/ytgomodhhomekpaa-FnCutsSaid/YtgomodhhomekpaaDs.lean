/-
  New, Reset, Sum, Size, BlockSize of SHA-256's digest.
-/
import Derived.Test.YtgomodhhomekpaaCk
namespace Go.Proofs.Ytgomodhhomekpaa
open Go.RowKit Pu Ar
theorem row_init8 {s : S8} {x : By} {nx ln b : Nat} {w : World} (h : Dig w b s x nx ln) :
    Dig ((((((((((w.setCell ⟨b, 0, none⟩ (.int .u32 1779033703)).setCell ⟨b, 1, none⟩ (.int .u32 3144134277)).setCell ⟨b, 2, none⟩ (.int .u32 1013904242)).setCell ⟨b, 3, none⟩ (.int .u32 2773480762)).setCell ⟨b, 4, none⟩ (.int .u32 1359893119)).setCell ⟨b, 5, none⟩ (.int .u32 2600822924)).setCell ⟨b, 6, none⟩ (.int .u32 528734635)).setCell ⟨b, 7, none⟩ (.int .u32 1541459225)).setCell ⟨b, 72, none⟩ (.int .i64 0)).setCell ⟨b, 73, none⟩ (.int .u64 0)) b init x 0 0 := by
  have e := (((((((h.row.set 0 (vw init.a)).set 1 (vw init.b)).set 2 (vw init.c)).set 3 (vw init.d)).set 4 (vw init.e)).set 5 (vw init.f)).set 6 (vw init.g)).set 7 (vw init.h)
  rw [digCells_set8] at e
  have e2 : Dig _ b init x nx ln := ⟨e, h.len⟩
  exact (e2.setNx 0).setLn 0
theorem tch_set10 (w : World) (b : Nat) (v0 v1 v2 v3 v4 v5 v6 v7 v8 v9 : Value) : Tch [b] w ((((((((((w.setCell ⟨b, 0, none⟩ v0).setCell ⟨b, 1, none⟩ v1).setCell ⟨b, 2, none⟩ v2).setCell ⟨b, 3, none⟩ v3).setCell ⟨b, 4, none⟩ v4).setCell ⟨b, 5, none⟩ v5).setCell ⟨b, 6, none⟩ v6).setCell ⟨b, 7, none⟩ v7).setCell ⟨b, 72, none⟩ v8).setCell ⟨b, 73, none⟩ v9) :=
  (Tch.trans (Tch.trans (Tch.trans (Tch.trans (Tch.trans (Tch.trans (Tch.trans (Tch.trans (Tch.trans (Tch.setCell _ _ _ (by simp)) (Tch.setCell _ _ _ (by simp))) (Tch.setCell _ _ _ (by simp))) (Tch.setCell _ _ _ (by simp))) (Tch.setCell _ _ _ (by simp))) (Tch.setCell _ _ _ (by simp))) (Tch.setCell _ _ _ (by simp))) (Tch.setCell _ _ _ (by simp))) (Tch.setCell _ _ _ (by simp))) (Tch.setCell _ _ _ (by simp)))
set_option maxHeartbeats 200000 in
set_option maxRecDepth 100000 in
theorem digReset0 (b : Nat) (s : S8) (x : By) (nx ln : Nat) (w : World) (hD : Dig w b s x nx ln) :
    Calls Try.prog 66 #[.pointer (some ⟨b, 0, none⟩)] w fun e w' => e = .returned (.tuple #[]) ∧ Hid (Dig w' b init x 0 0 ∧ Tch [b] w w') := by
  have cc : ∀ j, j < 75 → ∃ y, w.cell? ⟨b, j, none⟩ = some y := by
    intro j hj
    rw [hD.row.cell]
    exact ⟨_, List.getElem?_eq_getElem (by rw [digCells_length, hD.len]; omega)⟩
  obtain ⟨y0, c0⟩ := cc 0 (by omega)
  obtain ⟨y1, c1⟩ := cc 1 (by omega)
  obtain ⟨y2, c2⟩ := cc 2 (by omega)
  obtain ⟨y3, c3⟩ := cc 3 (by omega)
  obtain ⟨y4, c4⟩ := cc 4 (by omega)
  obtain ⟨y5, c5⟩ := cc 5 (by omega)
  obtain ⟨y6, c6⟩ := cc 6 (by omega)
  obtain ⟨y7, c7⟩ := cc 7 (by omega)
  have c72 := hD.nx
  have c73 := hD.ln
  have c74 := hD.is224
  have hf : ∀ j, w.frozen? ⟨b, j, none⟩ = false := fun j => hD.row.free j
  have hnot : (Op.unary .not (.bool false)) = pure (.bool true) := rfl
  have HD := Lib.hid hD
  clear hD cc
  go_enter Try.func66, Try.ntmps66
  go_wp2
  go_end0
  exact ⟨rfl, row_init8 HD.out, tch_set10 _ _ _ _ _ _ _ _ _ _ _ _⟩
theorem digReset (kt : List UInt32) (b : Nat) (l : By) (w : World) (hD : DigIs w b kt l) :
    Calls Try.prog 66 #[.pointer (some ⟨b, 0, none⟩)] w fun e w' => e = .returned (.tuple #[]) ∧ Hid (DigIs w' b kt [] ∧ Tch [b] w w') := by
  obtain ⟨_, x, hd, _⟩ := hD
  refine (digReset0 b _ x _ _ w hd).mono ?_
  rintro e w' ⟨h1, h2⟩
  exact ⟨h1, ⟨by simp, x, h2.out.1, rfl⟩, h2.out.2⟩
set_option maxHeartbeats 200000 in
set_option maxRecDepth 100000 in
theorem digNew (kt : List UInt32) (w : World) :
    Calls Try.prog 49 #[] w fun e w' => e = .returned (.pointer (some ⟨w.heap.size, 0, none⟩)) ∧ Hid (DigIs w' w.heap.size kt [] ∧ Tch [] w w' ∧ w.heap.size < w'.heap.size) := by
  go_enter Try.func49, Try.ntmps49
  refine wp_seq_k (fun K0 h0 => ?_)
  have H0 := Lib.hid h0
  clear h0
  go_wp2
  refine H0.out _ _ (wp_seq_k (fun K1 h1 => ?_))
  have H1 := Lib.hid h1
  clear h1 H0 K0
  obtain ⟨Z, hZ⟩ : ∃ Z : List Value, Z = digCells ⟨0, 0, 0, 0, 0, 0, 0, 0⟩ (List.replicate 64 0) 0 0 := ⟨_, rfl⟩
  have hz : ∀ w, (zeroValue 104).run Try.prog w = .ok (.agg Z.toArray) w := fun w => by rw [hZ]; kernel_rfl
  have HZ := Lib.hid hZ
  clear hZ
  go_wp2
  clear hz
  generalize hW2 : World.alloc _ _ = W2
  have R2 : Row W2 w.heap.size 104 Z := by rw [← hW2]; exact Row.new w 104 Z
  have T2 : Hid (Tch [] w W2) := by rw [← hW2]; exact Tch.alloc _ _
  have S2 : Hid (w.heap.size < W2.heap.size) := by rw [← hW2]; simp [Hid]
  have D2 : Dig W2 w.heap.size _ _ 0 0 := ⟨HZ.out ▸ R2, by simp⟩
  have HB := Lib.hid (digReset0 _ _ _ _ _ _ D2)
  clear hW2 R2 D2 HZ Z
  obtain ⟨b, hb⟩ : ∃ b, b = w.heap.size := ⟨_, rfl⟩
  rw [← hb] at HB ⊢
  have Hb := Lib.hid hb
  clear hb
  refine H1.out _ _ ?_
  go_wp2_with (fail)
  refine HB.out.mono ?_
  rintro e w3 ⟨rfl, h3⟩
  go_wp2
  go_ret
  have h := h3.out
  have hb := Hb.out
  clear Hb HB H1
  subst hb
  refine ⟨rfl, ⟨by simp, _, h.1, rfl⟩, T2.out.new h.2 (by intro i hi; right; rw [List.mem_singleton.1 hi]; exact Nat.le_refl _), ?_⟩
  exact Nat.lt_of_lt_of_le S2.out h.2.size
set_option maxRecDepth 100000 in
theorem digSize (kt : List UInt32) (b : Nat) (l : By) (w : World) (hD : DigIs w b kt l) :
    Calls Try.prog 97 #[.pointer (some ⟨b, 0, none⟩)] w fun e w' => e = .returned (.int .i64 32) ∧ w = w' := by
  obtain ⟨_, x, hd, _⟩ := hD
  have c74 := hd.is224
  have hnot : (Op.unary .not (.bool false)) = pure (.bool true) := rfl
  clear hd
  go_enter Try.func97, Try.ntmps97
  go_wp2
  go_ret
  exact ⟨rfl, rfl⟩
set_option maxRecDepth 100000 in
theorem digBlockSize (a : Addr) (w : World) :
    Calls Try.prog 95 #[.pointer (some a)] w fun e w' => e = .returned (.int .i64 64) ∧ w = w' := by
  go_enter Try.func95, Try.ntmps95
  go_wp2
  go_ret
  exact ⟨rfl, rfl⟩
end Go.Proofs.Ytgomodhhomekpaa
