/-
  spec.constants; spec.shaBlock whole.
-/
import Derived.Test.YtgomodhhomekpaaDoorM4
import Derived.Test.YtgomodhhomekpaaDoorZb
namespace Go.Proofs.YtgomodhhomekpaaDoor
open Go.RowKit Pu Ar
set_option maxHeartbeats 1000000 in
set_option maxRecDepth 100000 in
/-- spec.constants. -/
theorem sConst (w : World) : Calls Tryd.prog 35 #[] w fun e w' => e = .returned (.agg (kc.map vw).toArray) ∧ Hid (Tch [] w w') := by
  obtain ⟨Z, hZ⟩ : ∃ Z : List Value, Z = List.replicate 64 (Value.int .u32 0) := ⟨_, rfl⟩
  have hz : ∀ w, (zeroValue 71).run Tryd.prog w = .ok (.agg Z.toArray) w := fun w => by rw [hZ]; kernel_rfl
  have HZ := Lib.hid hZ
  clear hZ
  go_enter Tryd.func35, Tryd.ntmps35
  refine wp_seq_k (fun K0 k0 => ?_)
  have J0 := Lib.hid k0
  clear k0
  go_wp2
  clear hz
  generalize hW2 : World.alloc _ _ = W2
  have R2 : Hid (Row W2 w.heap.size 71 (List.replicate 64 (Value.int .u32 0))) := by rw [← hW2, ← HZ.out]; exact Row.new w 71 _
  have T2 : Hid (Tch [] w W2) := by rw [← hW2]; exact Tch.alloc _ _
  clear hW2
  obtain ⟨r, hr⟩ : ∃ r, r = w.heap.size := ⟨_, rfl⟩
  rw [← hr] at R2 ⊢
  refine J0.out _ _ ?_
  refine wp_seq_k (fun K1 k1 => ?_)
  have J1 := Lib.hid k1
  clear k1 J0
  go_wp2_with (refine wpList_store_row rfl 71 (.tmp 0) (.tmp 1) rfl r ((kc.map vw).toArray) rfl rfl 71 _ R2.out (by kernel_rfl) (by kernel_rfl) (by kernel_rfl) ?_)
  go_wp2
  refine J1.out _ _ ?_
  go_wp2
  refine bodyPost_ret (results_cell_row rfl _ _ r 71 ((kc.map vw).toArray) (0, 0) _ rfl (setRow_heap W2 r _ _ 71 _ R2.out) Tryd.underlying71 rfl (by kernel_rfl)) rfl ⟨rfl, T2.out.new (Tch.setRow (S := [r]) _ _ _ (by simp)) ?_⟩
  intro i hi
  right
  rw [List.mem_singleton.1 hi, hr]
  exact Nat.le_refl _
theorem zero_words : (List.replicate 64 (Value.int .u32 0)) = (List.replicate 64 (0 : UInt32)).map vw := by kernel_rfl
set_option maxHeartbeats 2000000 in
set_option maxRecDepth 100000 in
/-- spec.shaBlock. -/
theorem sShaBlock (hs : S8) (blk : By) (v : Value) (w : World) (hv : Rd w v blk) (hb : blk.length = 64) :
    Calls Tryd.prog 28 #[.agg #[.int .u32 (iw hs.a), .int .u32 (iw hs.b), .int .u32 (iw hs.c), .int .u32 (iw hs.d), .int .u32 (iw hs.e), .int .u32 (iw hs.f), .int .u32 (iw hs.g), .int .u32 (iw hs.h)], v] w fun e w' => e = .returned (.agg (s8c (comp kc hs blk)).toArray) ∧ Hid (Tch [] w w') := by
  obtain ⟨q, cap, rfl, hcap, hmax, hrd⟩ := hv
  obtain ⟨pb, po, rfl, hcell⟩ : ∃ b o, q = some ⟨b, o, none⟩ ∧ ∀ i x, blk[i]? = some x → w.cell? ⟨b, o + i, none⟩ = some (vb x) := by
    rcases hrd with h | h
    · rw [h] at hb; simp at hb
    · exact h
  have hpl : pb < w.heap.size := cell_lt (hcell 0 (blk.getD 0 0) (by rw [List.getD_eq_getElem?_getD, List.getElem?_eq_getElem (by omega)]; rfl))
  have HC := Lib.hid hcell
  have HB := Lib.hid hb
  have HP := Lib.hid hpl
  rw [hb]
  clear hcap hmax hrd hcell hb hpl
  obtain ⟨Y, hY⟩ : ∃ Y, Y = rounds kc blk hs 64 := ⟨_, rfl⟩
  have hcomp : comp kc hs blk = hs.add Y := by unfold comp; rw [hY]
  rw [hcomp]
  have HY := Lib.hid hY
  clear hY hcomp
  obtain ⟨Z, hZ⟩ : ∃ Z : List Value, Z = List.replicate 64 (Value.int .u32 0) := ⟨_, rfl⟩
  have hz : ∀ w, (zeroValue 71).run Tryd.prog w = .ok (.agg Z.toArray) w := fun w => by rw [hZ]; kernel_rfl
  have HZ := Lib.hid hZ
  clear hZ
  go_enter Tryd.func28, Tryd.ntmps28
  refine wp_seq_k (fun K0 k0 => ?_)
  have J0 := Lib.hid k0
  clear k0
  go_wp2
  generalize hW1 : World.alloc _ _ = W1
  obtain ⟨W0, hW0⟩ : ∃ W0, W0 = w.alloc (.cells (s8c hs).toArray 47) := ⟨_, rfl⟩
  have hW1' : W1 = W0.alloc (.cells (List.replicate 8 (Value.int .u32 0)).toArray 47) := by rw [← hW1, hW0]; rfl
  have RH : Hid (Row W1 w.heap.size 47 (s8c hs)) := by rw [hW1', hW0]; exact (Row.new w 47 (s8c hs)).alloc _
  have ZR : W0.heap.size = w.heap.size + 1 := by rw [hW0, World.size_alloc]
  have RR : Hid (Row W1 (w.heap.size + 1) 47 (List.replicate 8 (Value.int .u32 0))) := by rw [hW1', ← ZR]; exact Row.new W0 47 _
  have T1 : Hid (Tch [] w W1) := by rw [hW1', hW0]; exact (Tch.alloc _ _).trans (Tch.alloc _ _)
  have S1 : Hid (W1.heap.size = w.heap.size + 2) := by rw [hW1']; show (W0.alloc _).heap.size = _; rw [World.size_alloc, ZR]
  clear hW1 hW1' hW0 ZR
  refine J0.out _ _ ?_
  refine wp_seq_k (fun K1 k1 => ?_)
  have J1 := Lib.hid k1
  clear k1 J0
  go_wp2_with (refine wpList_store_row rfl 71 (.tmp 5) (.tmp 19) rfl W1.heap.size (Z.toArray) rfl rfl 71 _ (Row.new W1 71 Z) (by rw [HZ.out]; kernel_rfl) rfl (by rw [HZ.out]; kernel_rfl) ?_)
  go_wp2
  generalize hW2 : World.setRow _ _ _ = W2
  have RW : Hid (WIs W2 W1.heap.size (List.replicate 64 0)) := by
    rw [← hW2]
    refine ⟨by simp, ?_⟩
    rw [← zero_words, ← HZ.out]
    exact setRow_heap _ _ _ _ 71 _ (Row.new W1 71 Z)
  have t2 : Tch [] W1 W2 := by rw [← hW2]; exact (Tch.alloc _ _).new (Tch.setRow (S := [W1.heap.size]) _ _ _ (by simp)) (by intro i hi; right; rw [List.mem_singleton.1 hi]; exact Nat.le_refl _)
  have RH2 := Lib.hid (RH.out.tch t2 (by simp))
  have RR2 := Lib.hid (RR.out.tch t2 (by simp))
  have T2 := Lib.hid (T1.out.trans t2)
  clear hW2 t2 RH RR T1
  obtain ⟨wb, hwb⟩ : ∃ wb, wb = W1.heap.size := ⟨_, rfl⟩
  rw [← hwb] at RW S1 ⊢
  clear hwb
  obtain ⟨hb, hhb⟩ : ∃ hb, hb = w.heap.size := ⟨_, rfl⟩
  obtain ⟨rb, hrb⟩ : ∃ rb, rb = w.heap.size + 1 := ⟨_, rfl⟩
  rw [← hrb] at RR2 ⊢
  rw [← hhb] at RH2 ⊢
  have NE : Hid (wb = w.heap.size + 2 ∧ hb = w.heap.size ∧ rb = w.heap.size + 1) := ⟨S1.out, hhb, hrb⟩
  clear hhb hrb S1
  refine J1.out _ _ ?_
  refine wp_seq_k (fun K2 k2 => ?_)
  have J2 := Lib.hid k2
  clear k2 J1
  refine wp_seq_k (fun K12 k12 => ?_)
  have J12 := Lib.hid k12
  clear k12
  go_wp2
  refine J12.out _ _ (wp_block ?_)
  refine sb1Loop _ W2 ⟨rfl, rfl⟩ _ pb po 64 cap wb blk _ (by omega) HB.out RW.out (fun i x hx => T2.out.cell (HC.out i x hx) (by simp)) (by have := HP.out; have := NE.out; omega) rfl rfl rfl ?_
  rintro a3 W3 ⟨f3, sm3, ws3, h3⟩
  refine J2.out _ _ ?_
  have s1 : G a3 1 = .slice (some ⟨pb, po, none⟩) 64 cap := sm3.get 1 rfl
  have s2 : G a3 2 = .pointer (some ⟨hb, 0, none⟩) := sm3.get 2 rfl
  have s4 : G a3 4 = .pointer (some ⟨rb, 0, none⟩) := sm3.get 4 rfl
  have s5 : G a3 5 = .pointer (some ⟨wb, 0, none⟩) := sm3.get 5 rfl
  rw [lit218 a3 f3]
  simp only [s1, s2, s4, s5]
  clear f3 sm3 s1 s2 s4 s5
  have RH3 := Lib.hid (RH2.out.tch h3.out (by have := NE.out; simp; omega))
  have RR3 := Lib.hid (RR2.out.tch h3.out (by have := NE.out; simp; omega))
  have T3 : Hid (Tch [] w W3) := T2.out.new h3.out (by intro i hi; right; have := NE.out; rw [List.mem_singleton.1 hi]; omega)
  clear RH2 RR2 T2 h3 RW J2
  refine wp_seq_k (fun K3 k3 => ?_)
  have J3 := Lib.hid k3
  clear k3
  refine wp_seq_k (fun K13 k13 => ?_)
  have J13 := Lib.hid k13
  clear k13
  go_wp2
  refine J13.out _ _ (wp_block ?_)
  obtain ⟨ws, hws, htk⟩ := ws3.out
  refine sb2Loop _ W3 ⟨rfl, rfl⟩ _ wb blk ws hws htk rfl rfl ?_
  rintro a4 W4 ⟨f4, sm4, ws4, h4⟩
  refine J3.out _ _ ?_
  have s2 : G a4 2 = .pointer (some ⟨hb, 0, none⟩) := sm4.get 2 rfl
  have s4 : G a4 4 = .pointer (some ⟨rb, 0, none⟩) := sm4.get 4 rfl
  have s5 : G a4 5 = .pointer (some ⟨wb, 0, none⟩) := sm4.get 5 rfl
  rw [lit218 a4 f4]
  simp only [s2, s4, s5]
  clear f4 sm4 s2 s4 s5
  have RH4 := Lib.hid (RH3.out.tch h4.out (by have := NE.out; simp; omega))
  have RR4 := Lib.hid (RR3.out.tch h4.out (by have := NE.out; simp; omega))
  have T4 : Hid (Tch [] w W4) := T3.out.new h4.out (by intro i hi; right; have := NE.out; rw [List.mem_singleton.1 hi]; omega)
  clear RH3 RR3 T3 h4 hws htk ws3 J3
  refine wp_seq_k (fun K4 k4 => ?_)
  have J4 := Lib.hid k4
  clear k4
  go_wp2_with (first | (refine wpList_store_row rfl 71 (.tmp 10) (.tmp 112) rfl W5.heap.size ((kc.map vw).toArray) rfl rfl 71 _ (Row.new W5 71 Z) (by kernel_rfl) (by rw [HZ.out]; kernel_rfl) (by kernel_rfl) ?_) | fail)
  refine (sConst W4).mono ?_
  rintro e W5 ⟨rfl, h5⟩
  go_wp2_with (first | (refine wpList_store_row rfl 71 (.tmp 10) (.tmp 112) rfl W5.heap.size ((kc.map vw).toArray) rfl rfl 71 _ (Row.new W5 71 Z) (by kernel_rfl) (by rw [HZ.out]; kernel_rfl) (by kernel_rfl) ?_) | fail)
  go_wp2
  generalize hW6 : World.setRow _ _ _ = W6
  have RK : Hid (WIs W6 W5.heap.size kc) := by
    rw [← hW6]
    exact ⟨rfl, setRow_heap _ _ _ _ 71 _ (Row.new W5 71 Z)⟩
  have t6 : Tch [] W4 W6 := by rw [← hW6]; exact h5.out.trans ((Tch.alloc _ _).new (Tch.setRow (S := [W5.heap.size]) _ _ _ (by simp)) (by intro i hi; right; rw [List.mem_singleton.1 hi]; exact Nat.le_refl _))
  have RW6 : Hid (∃ ws, WIs W6 wb ws ∧ ws.take 64 = sched blk 64) := by
    obtain ⟨ws, h1, h2⟩ := ws4.out
    exact ⟨ws, ⟨h1.1, h1.2.tch t6 (by simp)⟩, h2⟩
  have RH6 := Lib.hid (RH4.out.tch t6 (by simp))
  have RR6 := Lib.hid (RR4.out.tch t6 (by simp))
  have T6 := Lib.hid (T4.out.trans t6)
  have N6 : Hid (W4.heap.size ≤ W5.heap.size ∧ W5.heap.size < W6.heap.size) := ⟨h5.out.size, RK.out.2.lt⟩
  have N4 : Hid (wb < W4.heap.size) := by obtain ⟨ws, h1, h2⟩ := ws4.out; exact h1.2.lt
  clear hW6 t6 RH4 RR4 T4 ws4 h5 hz
  obtain ⟨kb, hkb⟩ : ∃ kb, kb = W5.heap.size := ⟨_, rfl⟩
  rw [← hkb] at RK N6 ⊢
  clear hkb
  refine J4.out _ _ ?_
  refine wp_seq_k (fun K5 k5 => ?_)
  have J5 := Lib.hid k5
  clear k5 J4
  go_wp2_with (first | (refine wpList_load_row rfl 47 (.tmp 2) rfl hb rfl 47 (s8c hs).toArray (0, 0) _ RH6.out Tryd.underlying47 rfl (by kernel_rfl) ?_) | (refine wpList_store_row rfl 47 (.tmp 11) (.tmp 113) rfl W6.heap.size ((s8c hs).toArray) rfl rfl 47 _ (Row.new W6 47 (List.replicate 8 (Value.int .u32 0))) (by kernel_rfl) (by kernel_rfl) (by kernel_rfl) ?_) | fail)
  go_wp2
  generalize hW7 : World.setRow _ _ _ = W7
  have RV : Hid (Row W7 W6.heap.size 47 (s8c hs)) := by
    rw [← hW7]
    exact setRow_heap _ _ _ _ 47 _ (Row.new W6 47 (List.replicate 8 (Value.int .u32 0)))
  have t7 : Tch [] W6 W7 := by rw [← hW7]; exact (Tch.alloc _ _).new (Tch.setRow (S := [W6.heap.size]) _ _ _ (by simp)) (by intro i hi; right; rw [List.mem_singleton.1 hi]; exact Nat.le_refl _)
  have RW7 : Hid (∃ ws, WIs W7 wb ws ∧ ws.take 64 = sched blk 64) := by
    obtain ⟨ws, h1, h2⟩ := RW6.out
    exact ⟨ws, ⟨h1.1, h1.2.tch t7 (by simp)⟩, h2⟩
  have RK7 : Hid (WIs W7 kb kc) := ⟨RK.out.1, RK.out.2.tch t7 (by simp)⟩
  have RH7 := Lib.hid (RH6.out.tch t7 (by simp))
  have RR7 := Lib.hid (RR6.out.tch t7 (by simp))
  have T7 := Lib.hid (T6.out.trans t7)
  have N7 : Hid (w.heap.size ≤ W4.heap.size) := Nat.le_of_lt (Nat.lt_of_le_of_lt (by have := NE.out; omega) N4.out)
  clear hW7 t7 RH6 RR6 T6 RW6 RK
  obtain ⟨vk, hvk⟩ : ∃ vk, vk = W6.heap.size := ⟨_, rfl⟩
  rw [← hvk] at RV N6 ⊢
  clear hvk
  refine J5.out _ _ ?_
  refine wp_seq_k (fun K6 k6 => ?_)
  have J6 := Lib.hid k6
  clear k6 J5
  refine wp_seq_k (fun K16 k16 => ?_)
  have J16 := Lib.hid k16
  clear k16
  go_wp2
  refine J16.out _ _ (wp_block ?_)
  obtain ⟨ws, hws, htk⟩ := RW7.out
  refine sb3Loop _ W7 ⟨rfl, rfl⟩ _ wb kb vk blk hs ws hws htk RK7.out RV.out (by have := N4.out; have := N6.out; omega) (by have := N6.out; omega) rfl rfl rfl rfl ?_
  rintro a8 W8 ⟨f8, sm8, h8⟩
  rw [← HY.out] at h8
  refine J6.out _ _ ?_
  have s2 : G a8 2 = .pointer (some ⟨hb, 0, none⟩) := sm8.get 2 rfl
  have s4 : G a8 4 = .pointer (some ⟨rb, 0, none⟩) := sm8.get 4 rfl
  have s11 : G a8 11 = .pointer (some ⟨vk, 0, none⟩) := sm8.get 11 rfl
  rw [lit218 a8 f8]
  simp only [s2, s4, s11]
  clear f8 sm8 s2 s4 s11
  have RV8 := Lib.hid h8.out.1
  have N8 : Hid (vk ≠ hb ∧ vk ≠ rb ∧ hb ≠ rb ∧ w.heap.size ≤ vk) := by
    have := NE.out; have := N4.out; have := N6.out
    show _ ∧ _; omega
  have RH8 : Hid (Row W8 hb 47 (s8c hs)) := RH7.out.tch h8.out.2 (by have := N8.out; simp; omega)
  have RR8 : Hid (Row W8 rb 47 (List.replicate 8 (Value.int .u32 0))) := RR7.out.tch h8.out.2 (by have := N8.out; simp; omega)
  have T8 : Hid (Tch [] w W8) := T7.out.new h8.out.2 (by intro i hi; right; have := N8.out; rw [List.mem_singleton.1 hi]; omega)
  clear RH7 RR7 T7 h8 hws htk RW7 RK7 RV
  refine wp_seq_k (fun K7 k7 => ?_)
  have J7 := Lib.hid k7
  clear k7
  refine wp_seq_k (fun K17 k17 => ?_)
  have J17 := Lib.hid k17
  clear k17
  go_wp2
  refine J17.out _ _ (wp_block ?_)
  refine sb4Loop _ W8 ⟨rfl, rfl⟩ _ hb vk (s8w hs) (s8w Y) rfl rfl RH8.out RV8.out N8.out.1 rfl rfl rfl ?_
  rintro a9 W9 ⟨f9, sm9, h9⟩
  refine J7.out _ _ ?_
  have s2 : G a9 2 = .pointer (some ⟨hb, 0, none⟩) := sm9.get 2 rfl
  have s4 : G a9 4 = .pointer (some ⟨rb, 0, none⟩) := sm9.get 4 rfl
  rw [lit218 a9 f9]
  simp only [s2, s4]
  clear f9 sm9 s2 s4
  have RH9 : Hid (Row W9 hb 47 (s8c (hs.add Y))) := h9.out.1
  have RR9 : Hid (Row W9 rb 47 (List.replicate 8 (Value.int .u32 0))) := RR8.out.tch h9.out.2 (by have := N8.out; simp; omega)
  have T9 : Hid (Tch [] w W9) := T8.out.new h9.out.2 (by intro i hi; right; have := NE.out; rw [List.mem_singleton.1 hi]; omega)
  clear RH8 RR8 T8 h9 RV8
  refine wp_seq_k (fun K8 k8 => ?_)
  have J8 := Lib.hid k8
  clear k8
  go_wp2_with (first | (refine wpList_load_row rfl 47 (.tmp 2) rfl hb rfl 47 (s8c (hs.add Y)).toArray (0, 0) _ RH9.out Tryd.underlying47 rfl (by kernel_rfl) ?_) | (refine wpList_store_row rfl 47 (.tmp 4) (.tmp 217) rfl rb ((s8c (hs.add Y)).toArray) rfl rfl 47 _ RR9.out (by kernel_rfl) (by kernel_rfl) (by kernel_rfl) ?_) | fail)
  go_wp2
  refine J8.out _ _ ?_
  go_wp2
  refine bodyPost_ret (results_cell_row rfl _ _ rb 47 ((s8c (hs.add Y)).toArray) (0, 0) _ rfl (setRow_heap W9 rb _ _ 47 _ RR9.out) Tryd.underlying47 rfl (by kernel_rfl)) rfl ⟨rfl, T9.out.new (Tch.setRow (S := [rb]) _ _ _ (by simp)) ?_⟩
  intro i hi
  right
  have := NE.out
  rw [List.mem_singleton.1 hi]
  omega
end Go.Proofs.YtgomodhhomekpaaDoor
