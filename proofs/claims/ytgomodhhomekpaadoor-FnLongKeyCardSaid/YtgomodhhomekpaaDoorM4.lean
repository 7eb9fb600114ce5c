/-
  A part of what this claim leans on: Hq, Im, Ia, Lg, Sm, Rw. No conditions of its own.
-/
import Derived.Deep.RegionHeld3
import Derived.Laws.BytesString
import Derived.Test.YtgomodhhomekpaaDoorRows
import Derived.WalkKit
import Derived.ProofKit
import Derived.OpenShut
import Derived.ShutString
import Derived.ChangeOld
import Derived.Below
import Derived.Lib.SmallJoins
import Derived.LaidMore
import Derived.OpenVars
import Derived.HandedShaped
import Derived.Test.YtgomodhhomekpaaDoorM3
/-
  hmac.New, whole.
-/
namespace Go.Proofs.YtgomodhhomekpaaDoor
open Go.RowKit Pu Ar
/-- What the making of a hash hands back. -/
def NewH (hk : Pu.HK) (w : World) (e : Ending) (w' : World) : Prop :=
  ∃ b sb, e = .returned (.pointer (some ⟨b, 0, none⟩)) ∧ Hid (HIs w' hk b sb [] ∧ Tch [] w w' ∧ w.heap.size ≤ b ∧ w.heap.size ≤ sb)
theorem newD (kt : List UInt32) (w : World) (hK : KIs w kt) : Calls Tryd.prog 12 #[] w (NewH (.sha kt) w) := by
  refine (digNew kt w).mono ?_
  rintro e w' ⟨rfl, h⟩
  exact ⟨_, _, rfl, ⟨hK.tch h.out.2.1 (by simp), h.out.1, rfl⟩, h.out.2.1, Nat.le_refl _, Nat.le_refl _⟩
theorem newO (k s bl : Int) (w : World) : Calls Tryd.prog 16 #[.agg #[.int .i64 k, .int .i64 s, .int .i64 bl]] w (NewH (.own (szOf s bl) (blOf s bl)) w) := by
  refine (ownFresh k s bl w).mono ?_
  rintro e w' ⟨b, sb, rfl, h⟩
  exact ⟨b, sb, rfl, h.out.1, h.out.2⟩
theorem rowD {w : World} {kt : List UInt32} {b sb : Nat} {l : By} (h : HIs w (.sha kt) b sb l) : ∃ x, Row w b 51 x := by
  obtain ⟨_, ⟨_, x, hd, _⟩, _⟩ := h
  exact ⟨_, hd.row⟩
theorem rowO {w : World} {s bl b sb : Nat} {l : By} (h : HIs w (.own s bl) b sb l) : ∃ x, Row w b 56 x := ⟨_, OwnAt.row h⟩
theorem own_ok (s bl : Int) : (Pu.HK.own (szOf s bl) (blOf s bl)).ok := by
  have h := kindOf_ok [] 0 s bl
  rwa [bad_kind [] 0 s bl (by omega)] at h
set_option maxHeartbeats 2000000 in
set_option maxRecDepth 100000 in
theorem hmNewD (kt : List UInt32) (key : By) (v : Value) (w : World) (hK : KIs w kt) (hr : Rd w v key) (hnm : Nm v) (hlt : ∀ b, v.ownBlock = some b → b < w.heap.size) (hkl : key.length ≤ 1099511627776) :
    Calls Tryd.prog 29 #[(.func (.func 12) #[] #[]), v] w (HNE w (Pu.HK.sha kt) key) := by
  obtain ⟨vp, vc, rfl, _, _, _⟩ := id hr
  have HK := Lib.hid hK
  have HR := Lib.hid hr
  have HNM := Lib.hid hnm
  have HLT := Lib.hid hlt
  have HKL := Lib.hid hkl
  clear hK hr hnm hlt hkl
  go_enter Tryd.func29, Tryd.ntmps29
  refine wp_seq_k (fun K0 k0 => ?_)
  have J0 := Lib.hid k0
  clear k0
  go_wp2
  refine J0.out _ _ (wp_seq_k (fun K1 k1 => ?_))
  have J1 := Lib.hid k1
  clear k1
  go_wp2
  generalize hW2 : World.alloc _ _ = W2
  have RM : Hid (Row W2 w.heap.size 64 [.slice none 0 0, .slice none 0 0, .nilIface, .nilIface, .bool false, .bool false, .int .i64 key.length]) := by rw [← hW2]; exact (Row.new w 64 _).alloc _
  have RH : Hid (Row W2 (w.heap.size + 1) 44 [.pointer (some ⟨w.heap.size, 0, none⟩)]) := by
    rw [← hW2]
    have := Row.new (w.alloc (.cells #[.slice none 0 0, .slice none 0 0, .nilIface, .nilIface, .bool false, .bool false, .int .i64 key.length] 64)) 44 [.pointer (some ⟨w.heap.size, 0, none⟩)]
    rwa [World.size_alloc] at this
  have T2 : Hid (Tch [] w W2) := by rw [← hW2]; exact (Tch.alloc _ _).trans (Tch.alloc _ _)
  clear hW2
  obtain ⟨m, hm⟩ : ∃ m, m = w.heap.size := ⟨_, rfl⟩
  obtain ⟨hv, hhv⟩ : ∃ hv, hv = w.heap.size + 1 := ⟨_, rfl⟩
  rw [← hhv] at RH ⊢
  rw [← hm] at RM RH ⊢
  have hmh : m < hv := by omega
  have HMH := Lib.hid hmh
  have HMW := Lib.hid hm
  clear hm hhv
  have c0 : W2.cell? ⟨hv, 0, none⟩ = some (.pointer (some ⟨m, 0, none⟩)) := by rw [RH.out.cell]; rfl
  refine J1.out _ _ (wp_seq_k (fun K2 k2 => ?_))
  have J2 := Lib.hid k2
  clear k2
  go_region_held3 (fun w' => w'.cell? ⟨hv, 0, none⟩ = some (.pointer (some ⟨m, 0, none⟩))) (first | exact c0 | assumption | (rw [World.cell?_setCell_other _ _ _ _ (by intro h; simp only [Addr.mk.injEq] at h; omega)]; assumption)) (first | (go_at_call 12; refine (newD kt _ (HK.out.tch (T2.out.trans (Tch.drewN W2 1)) (by simp))).mono ?_; rintro e w3 ⟨bo, so, rfl, h3⟩; have c0' : w3.cell? ⟨hv, 0, none⟩ = some (.pointer (some ⟨m, 0, none⟩)) := h3.out.2.1.cell c0 (by simp); have c2' : w3.cell? ⟨m, 2, none⟩ = some .nilIface := by { rw [(RM.out.tch ((Tch.drewN (S := []) W2 1).trans h3.out.2.1) (by simp)).cell]; rfl }; have f2' : w3.frozen? ⟨m, 2, none⟩ = false := (RM.out.tch ((Tch.drewN (S := []) W2 1).trans h3.out.2.1) (by simp)).free 2))
  have hKm : 0 < m := by rw [HMW.out]; exact HK.out.2.lt
  have HKM := Lib.hid hKm
  have B3 : Hid (hv < bo ∧ hv < so) := by
    have h1 := RH.out.lt
    have h2 : W2.heap.size ≤ bo := h3.out.2.2.1
    have h4 : W2.heap.size ≤ so := h3.out.2.2.2
    exact ⟨by omega, by omega⟩
  generalize hW4 : World.setCell _ _ _ = W4
  have k4 : Tch [m] w3 W4 := by rw [← hW4]; exact Tch.setCell _ _ _ (by simp)
  have RM4 : Hid (Row W4 m 64 [.slice none 0 0, .slice none 0 0, .iface 33 (.pointer (some ⟨bo, 0, none⟩)), .nilIface, .bool false, .bool false, .int .i64 key.length]) := by
    rw [← hW4]; exact (RM.out.tch ((Tch.drewN (S := []) W2 1).trans h3.out.2.1) (by simp)).set 2 _
  have RH4 : Hid (Row W4 hv 44 [.pointer (some ⟨m, 0, none⟩)]) := (RH.out.tch ((Tch.drewN (S := []) W2 1).trans h3.out.2.1) (by simp)).tch k4 (by simp only [List.mem_singleton]; omega)
  have T4 : Hid (Tch [] w W4) := (T2.out.trans ((Tch.drewN (S := []) W2 1).trans h3.out.2.1)).new k4 (by intro i hi; right; rw [List.mem_singleton.1 hi, HMW.out]; exact Nat.le_refl _)
  have HO4 : Hid (HIs W4 (Pu.HK.sha kt) bo so []) := by
    have := B3.out
    exact h3.out.1.tch k4 (by simp only [List.mem_singleton]; omega) (by simp only [List.mem_singleton]; omega) (by simp only [List.mem_singleton]; omega)
  clear hW4 k4 h3 c0 c0' c2' f2' RM RH T2 hKm
  have c0 : W4.cell? ⟨hv, 0, none⟩ = some (.pointer (some ⟨m, 0, none⟩)) := by rw [RH4.out.cell]; rfl
  go_wp2
  refine J2.out _ _ (wp_seq_k (fun K3 k3 => ?_))
  have J3 := Lib.hid k3
  clear k3
  go_region_held3 (fun w' => w'.cell? ⟨hv, 0, none⟩ = some (.pointer (some ⟨m, 0, none⟩))) (first | exact c0 | assumption | (rw [World.cell?_setCell_other _ _ _ _ (by intro h; simp only [Addr.mk.injEq] at h; omega)]; assumption)) (first | (go_at_call 12; refine (newD kt _ (HK.out.tch (T4.out.trans (Tch.drewN W4 1)) (by simp))).mono ?_; rintro e w5 ⟨bi, si, rfl, h5⟩; have c0' : w5.cell? ⟨hv, 0, none⟩ = some (.pointer (some ⟨m, 0, none⟩)) := h5.out.2.1.cell c0 (by simp); have c3' : w5.cell? ⟨m, 3, none⟩ = some .nilIface := by { rw [(RM4.out.tch ((Tch.drewN (S := []) W4 1).trans h5.out.2.1) (by simp)).cell]; rfl }; have f3' : w5.frozen? ⟨m, 3, none⟩ = false := (RM4.out.tch ((Tch.drewN (S := []) W4 1).trans h5.out.2.1) (by simp)).free 3))
  have B5 : Hid (bo < bi ∧ bo < si ∧ so < bi ∧ so < si) := by
    have h1 := HO4.out.lt
    have h2 : W4.heap.size ≤ bi := h5.out.2.2.1
    have h4 : W4.heap.size ≤ si := h5.out.2.2.2
    exact ⟨by omega, by omega, by omega, by omega⟩
  generalize hW6 : World.setCell _ _ _ = W6
  have k6 : Tch [m] w5 W6 := by rw [← hW6]; exact Tch.setCell _ _ _ (by simp)
  have RM6 : Hid (Row W6 m 64 [.slice none 0 0, .slice none 0 0, .iface 33 (.pointer (some ⟨bo, 0, none⟩)), .iface 33 (.pointer (some ⟨bi, 0, none⟩)), .bool false, .bool false, .int .i64 key.length]) := by
    rw [← hW6]; exact (RM4.out.tch ((Tch.drewN (S := []) W4 1).trans h5.out.2.1) (by simp)).set 3 _
  have RH6 : Hid (Row W6 hv 44 [.pointer (some ⟨m, 0, none⟩)]) := (RH4.out.tch ((Tch.drewN (S := []) W4 1).trans h5.out.2.1) (by simp)).tch k6 (by simp only [List.mem_singleton]; omega)
  have T6 : Hid (Tch [] w W6) := (T4.out.trans ((Tch.drewN (S := []) W4 1).trans h5.out.2.1)).new k6 (by intro i hi; right; rw [List.mem_singleton.1 hi, HMW.out]; exact Nat.le_refl _)
  have HO6 : Hid (HIs W6 (Pu.HK.sha kt) bo so []) := by
    have := B3.out; have := HKM.out
    exact (HO4.out.tch ((Tch.drewN (S := []) W4 1).trans h5.out.2.1) (by simp) (by simp) (by simp)).tch k6 (by simp only [List.mem_singleton]; omega) (by simp only [List.mem_singleton]; omega) (by simp only [List.mem_singleton]; omega)
  have HI6 : Hid (HIs W6 (Pu.HK.sha kt) bi si []) := by
    have := B3.out; have := B5.out; have := HKM.out
    exact h5.out.1.tch k6 (by simp only [List.mem_singleton]; omega) (by simp only [List.mem_singleton]; omega) (by simp only [List.mem_singleton]; omega)
  clear hW6 k6 h5 c0 c0' c3' f3' RM4 RH4 T4 HO4
  go_wp2
  refine J3.out _ _ (wp_seq_k (fun K4 k4 => ?_))
  have J4 := Lib.hid k4
  clear k4
  go_wp2
  have HO6s : Hid (bo < W6.heap.size ∧ so < W6.heap.size) := HO6.out.lt
  have HI6s : Hid (bi < W6.heap.size ∧ si < W6.heap.size) := HI6.out.lt
  generalize hW7 : World.alloc _ _ = W7
  have k7 : Tch [] W6 W7 := by rw [← hW7]; exact Tch.alloc _ _
  have U7 : Hid (Row W7 W6.heap.size 4 [.bool true]) := by rw [← hW7]; exact Row.new W6 4 _
  have RM7 : Hid (Row W7 m 64 [.slice none 0 0, .slice none 0 0, .iface 33 (.pointer (some ⟨bo, 0, none⟩)), .iface 33 (.pointer (some ⟨bi, 0, none⟩)), .bool false, .bool false, .int .i64 key.length]) := RM6.out.tch k7 (by simp)
  have RH7 : Hid (Row W7 hv 44 [.pointer (some ⟨m, 0, none⟩)]) := RH6.out.tch k7 (by simp)
  have T7 : Hid (Tch [] w W7) := T6.out.trans k7
  have HO7 : Hid (HIs W7 (Pu.HK.sha kt) bo so []) := HO6.out.tch k7 (by simp) (by simp) (by simp)
  have HI7 : Hid (HIs W7 (Pu.HK.sha kt) bi si []) := HI6.out.tch k7 (by simp) (by simp) (by simp)
  clear hW7 k7 RM6 RH6 T6 HO6 HI6
  have c0 : W7.cell? ⟨hv, 0, none⟩ = some (.pointer (some ⟨m, 0, none⟩)) := by rw [RH7.out.cell]; rfl
  have c2 : W7.cell? ⟨m, 2, none⟩ = some (.iface 33 (.pointer (some ⟨bo, 0, none⟩))) := by rw [RM7.out.cell]; rfl
  have c3 : W7.cell? ⟨m, 3, none⟩ = some (.iface 33 (.pointer (some ⟨bi, 0, none⟩))) := by rw [RM7.out.cell]; rfl
  obtain ⟨x, hx⟩ := rowD HO7.out
  obtain ⟨y, hy⟩ := rowD HI7.out
  have HCL := Lib.hid (closD W7 hv W6.heap.size m bo bi x y c0 c2 c3 hx hy (by have := B5.out; omega))
  have hmf : ∀ (fn : Fn) (first cap : Array Value) (w : World), (Instr.makeFunc fn first cap).run Tryd.prog w = .ok (.func fn first cap) w := fun _ _ _ _ => rfl
  have hnot : (Op.unary .not (.bool true)) = pure (.bool false) := rfl
  clear hx hy x y c0 c2 c3
  refine J4.out _ _ (wp_seq_k (fun K5 k5 => ?_))
  have J5 := Lib.hid k5
  clear k5
  go_wp2_with (fail)
  refine HCL.out.mono ?_
  rintro e W8 ⟨rfl, h8⟩
  have k8 : Tch [] W7 W8 := h8.out
  have U8 : Hid (Row W8 W6.heap.size 4 [.bool true]) := U7.out.tch k8 (by simp)
  have RM8 : Hid (Row W8 m 64 [.slice none 0 0, .slice none 0 0, .iface 33 (.pointer (some ⟨bo, 0, none⟩)), .iface 33 (.pointer (some ⟨bi, 0, none⟩)), .bool false, .bool false, .int .i64 key.length]) := RM7.out.tch k8 (by simp)
  have RH8 : Hid (Row W8 hv 44 [.pointer (some ⟨m, 0, none⟩)]) := RH7.out.tch k8 (by simp)
  have T8 : Hid (Tch [] w W8) := T7.out.trans k8
  have HO8 : Hid (HIs W8 (Pu.HK.sha kt) bo so []) := HO7.out.tch k8 (by simp) (by simp) (by simp)
  have HI8 : Hid (HIs W8 (Pu.HK.sha kt) bi si []) := HI7.out.tch k8 (by simp) (by simp) (by simp)
  clear k8 h8 HCL U7 RM7 RH7 T7 HO7 HI7
  have c0 : W8.cell? ⟨hv, 0, none⟩ = some (.pointer (some ⟨m, 0, none⟩)) := by rw [RH8.out.cell]; rfl
  have c3 : W8.cell? ⟨m, 3, none⟩ = some (.iface 33 (.pointer (some ⟨bi, 0, none⟩))) := by rw [RM8.out.cell]; rfl
  have cu : W8.cell? ⟨W6.heap.size, 0, none⟩ = some (.bool true) := by rw [U8.out.cell]; rfl
  go_wp2
  refine J5.out _ _ (wp_seq_k (fun K6 k6 => ?_))
  have J6 := Lib.hid k6
  clear k6
  go_wp2
  refine J6.out _ _ (wp_seq_k (fun K7 k7 => ?_))
  have J7 := Lib.hid k7
  clear k7
  have e1 := mBlockSize (Pu.HK.sha kt)
  have e2 := cBlockSize (Pu.HK.sha kt)
  go_wp2_with (fail)
  refine (hBlock (Pu.HK.sha kt) bi si [] W8 HI8.out).mono ?_
  rintro e W9 ⟨rfl, rfl⟩
  obtain ⟨N, hN⟩ : ∃ N, N = Pu.HK.block (Pu.HK.sha kt) := ⟨_, rfl⟩
  have HN := Lib.hid hN
  have hN64 : N ≤ 64 := by rw [hN]; exact Pu.HK.ok.block_le (show Pu.HK.ok (.sha kt) from trivial)
  rw [← hN]
  clear hN c3 cu e1 e2 hmf hnot U8
  go_wp2
  refine J7.out _ _ (wp_seq_k (fun K8 k8 => ?_))
  have J8 := Lib.hid k8
  clear k8
  obtain ⟨WA, hWA⟩ : ∃ WA, WA = W8.drew.alloc (.cells (List.replicate N (Value.int .u8 0)).toArray 5) := ⟨_, rfl⟩
  have hmk : (Instr.makeSlice 24 (.int .i64 (N : Int)) (.int .i64 (N : Int))).run Tryd.prog W8.drew = .ok (.slice (some ⟨W8.heap.size, 0, none⟩) N N) WA := by
    rw [hWA]; exact run_make_by N N (Nat.le_refl _) (by omega) W8.drew
  have kA : Tch [] W8 WA := by rw [hWA]; exact (Tch.drewN (S := []) W8 1).trans (Tch.alloc _ _)
  have RMA : Hid (Row WA m 64 [.slice none 0 0, .slice none 0 0, .iface 33 (.pointer (some ⟨bo, 0, none⟩)), .iface 33 (.pointer (some ⟨bi, 0, none⟩)), .bool false, .bool false, .int .i64 key.length]) := RM8.out.tch kA (by simp)
  have RHA : Hid (Row WA hv 44 [.pointer (some ⟨m, 0, none⟩)]) := RH8.out.tch kA (by simp)
  have RIA : Hid (Row WA W8.heap.size 5 (List.replicate N (Value.int .u8 0))) := by rw [hWA]; exact Row.new W8.drew 5 _
  have TA : Hid (Tch [] w WA) := T8.out.trans kA
  have HOA : Hid (HIs WA (Pu.HK.sha kt) bo so []) := HO8.out.tch kA (by simp) (by simp) (by simp)
  have HIA : Hid (HIs WA (Pu.HK.sha kt) bi si []) := HI8.out.tch kA (by simp) (by simp) (by simp)
  have IPL : Hid (bo < W8.heap.size ∧ so < W8.heap.size ∧ bi < W8.heap.size ∧ si < W8.heap.size) := ⟨HO8.out.lt.1, HO8.out.lt.2, HI8.out.lt.1, HI8.out.lt.2⟩
  have cA0 : WA.cell? ⟨hv, 0, none⟩ = some (.pointer (some ⟨m, 0, none⟩)) := by rw [RHA.out.cell]; rfl
  have cA1 : WA.cell? ⟨m, 1, none⟩ = some (.slice none 0 0) := by rw [RMA.out.cell]; rfl
  have fA1 := RMA.out.free 1
  clear hWA kA RM8 RH8 T8 HO8 HI8
  go_region_held3 (fun w' => w'.cell? ⟨hv, 0, none⟩ = some (.pointer (some ⟨m, 0, none⟩))) (first | exact c0 | exact cA0 | (rw [World.cell?_setCell_other _ _ _ _ (by intro h; simp only [Addr.mk.injEq] at h; omega)]; assumption)) (fail)
  obtain ⟨ip, hip⟩ : ∃ ip, ip = W8.heap.size := ⟨_, rfl⟩
  rw [← hip] at RIA IPL ⊢
  clear hip
  generalize hWB : World.setCell _ _ _ = WB
  have kB : Tch [m] WA WB := by rw [← hWB]; exact Tch.setCell _ _ _ (by simp)
  have hd := B3.out
  have hd2 := B5.out
  have hd3 := IPL.out
  have hd4 := HKM.out
  have RMB : Hid (Row WB m 64 [.slice none 0 0, .slice (some ⟨ip, 0, none⟩) N N, .iface 33 (.pointer (some ⟨bo, 0, none⟩)), .iface 33 (.pointer (some ⟨bi, 0, none⟩)), .bool false, .bool false, .int .i64 key.length]) := by rw [← hWB]; exact RMA.out.set 1 _
  have RHB : Hid (Row WB hv 44 [.pointer (some ⟨m, 0, none⟩)]) := RHA.out.tch kB (by simp only [List.mem_singleton]; omega)
  have RIB : Hid (Row WB ip 5 (List.replicate N (Value.int .u8 0))) := RIA.out.tch kB (by simp only [List.mem_singleton]; omega)
  have TB : Hid (Tch [] w WB) := TA.out.new kB (by intro i hi; right; rw [List.mem_singleton.1 hi, HMW.out]; exact Nat.le_refl _)
  have HOB : Hid (HIs WB (Pu.HK.sha kt) bo so []) := HOA.out.tch kB (by simp only [List.mem_singleton]; omega) (by simp only [List.mem_singleton]; omega) (by simp only [List.mem_singleton]; omega)
  have HIB : Hid (HIs WB (Pu.HK.sha kt) bi si []) := HIA.out.tch kB (by simp only [List.mem_singleton]; omega) (by simp only [List.mem_singleton]; omega) (by simp only [List.mem_singleton]; omega)
  clear hWB kB RMA RHA RIA TA HOA HIA cA0 cA1 fA1 c0 hd hd2 hd3 hd4 hmk
  have c0 : WB.cell? ⟨hv, 0, none⟩ = some (.pointer (some ⟨m, 0, none⟩)) := by rw [RHB.out.cell]; rfl
  go_wp2
  refine J8.out _ _ (wp_seq_k (fun K9 k9 => ?_))
  have J9 := Lib.hid k9
  clear k9
  obtain ⟨WC, hWC⟩ : ∃ WC, WC = WB.drew.alloc (.cells (List.replicate N (Value.int .u8 0)).toArray 5) := ⟨_, rfl⟩
  have hmk : (Instr.makeSlice 24 (.int .i64 (N : Int)) (.int .i64 (N : Int))).run Tryd.prog WB.drew = .ok (.slice (some ⟨WB.heap.size, 0, none⟩) N N) WC := by
    rw [hWC]; exact run_make_by N N (Nat.le_refl _) (by omega) WB.drew
  have kC : Tch [] WB WC := by rw [hWC]; exact (Tch.drewN (S := []) WB 1).trans (Tch.alloc _ _)
  have RMC : Hid (Row WC m 64 [.slice none 0 0, .slice (some ⟨ip, 0, none⟩) N N, .iface 33 (.pointer (some ⟨bo, 0, none⟩)), .iface 33 (.pointer (some ⟨bi, 0, none⟩)), .bool false, .bool false, .int .i64 key.length]) := RMB.out.tch kC (by simp)
  have RHC : Hid (Row WC hv 44 [.pointer (some ⟨m, 0, none⟩)]) := RHB.out.tch kC (by simp)
  have RIC : Hid (Row WC ip 5 (List.replicate N (Value.int .u8 0))) := RIB.out.tch kC (by simp)
  have ROC : Hid (Row WC WB.heap.size 5 (List.replicate N (Value.int .u8 0))) := by rw [hWC]; exact Row.new WB.drew 5 _
  have TC : Hid (Tch [] w WC) := TB.out.trans kC
  have HOC : Hid (HIs WC (Pu.HK.sha kt) bo so []) := HOB.out.tch kC (by simp) (by simp) (by simp)
  have HIC : Hid (HIs WC (Pu.HK.sha kt) bi si []) := HIB.out.tch kC (by simp) (by simp) (by simp)
  have OPL : Hid (ip < WB.heap.size) := RIB.out.lt
  have cC0 : WC.cell? ⟨hv, 0, none⟩ = some (.pointer (some ⟨m, 0, none⟩)) := by rw [RHC.out.cell]; rfl
  have cC1 : WC.cell? ⟨m, 0, none⟩ = some (.slice none 0 0) := by rw [RMC.out.cell]; rfl
  have fC1 := RMC.out.free 0
  clear hWC kC RMB RHB RIB TB HOB HIB
  go_region_held3 (fun w' => w'.cell? ⟨hv, 0, none⟩ = some (.pointer (some ⟨m, 0, none⟩))) (first | exact c0 | exact cC0 | (rw [World.cell?_setCell_other _ _ _ _ (by intro h; simp only [Addr.mk.injEq] at h; omega)]; assumption)) (fail)
  obtain ⟨ob, hob⟩ : ∃ ob, ob = WB.heap.size := ⟨_, rfl⟩
  rw [← hob] at ROC OPL ⊢
  clear hob
  generalize hWD : World.setCell _ _ _ = WD
  have kD : Tch [m] WC WD := by rw [← hWD]; exact Tch.setCell _ _ _ (by simp)
  have hd := B3.out
  have hd2 := B5.out
  have hd3 := IPL.out
  have hd4 := HKM.out
  have hd5 := OPL.out
  have hd6 := HN.out
  have RMD : Row WD m 64 [.slice (some ⟨ob, 0, none⟩) N N, .slice (some ⟨ip, 0, none⟩) N N, .iface 33 (.pointer (some ⟨bo, 0, none⟩)), .iface 33 (.pointer (some ⟨bi, 0, none⟩)), .bool false, .bool false, .int .i64 key.length] := by rw [← hWD]; exact RMC.out.set 0 _
  have RHD : Row WD hv 44 [.pointer (some ⟨m, 0, none⟩)] := RHC.out.tch kD (by simp only [List.mem_singleton]; omega)
  have RID : Row WD ip 5 (List.replicate N (Value.int .u8 0)) := RIC.out.tch kD (by simp only [List.mem_singleton]; omega)
  have ROD : Row WD ob 5 (List.replicate N (Value.int .u8 0)) := ROC.out.tch kD (by simp only [List.mem_singleton]; omega)
  have TD : Tch [] w WD := TC.out.new kD (by intro i hi; right; rw [List.mem_singleton.1 hi, HMW.out]; exact Nat.le_refl _)
  have HOD : HIs WD (Pu.HK.sha kt) bo so [] := HOC.out.tch kD (by simp only [List.mem_singleton]; omega) (by simp only [List.mem_singleton]; omega) (by simp only [List.mem_singleton]; omega)
  have HID : HIs WD (Pu.HK.sha kt) bi si [] := HIC.out.tch kD (by simp only [List.mem_singleton]; omega) (by simp only [List.mem_singleton]; omega) (by simp only [List.mem_singleton]; omega)
  have ST : Hid (NewSt w WD (Pu.HK.sha kt) hv m bo so bi si ob ip (List.replicate (Pu.HK.block (Pu.HK.sha kt)) 0) (List.replicate (Pu.HK.block (Pu.HK.sha kt)) 0) [] key.length) := by
    rw [hd6] at RMD RID ROD
    refine ⟨(show Pu.HK.ok (.sha kt) from trivial), RHD, RMD, ?_, ?_, by simp, by simp, ⟨_, HOD⟩, HID, TD, hd4, by rw [HMW.out]; exact Nat.le_refl _, HMH.out, hd, hd2, ⟨hd3.2.2.1, hd3.2.2.2⟩, hd5⟩
    · rw [List.map_replicate]; exact ROD
    · rw [List.map_replicate]; exact RID
  have HOD' := Lib.hid HOD
  clear hWD kD RMD RHD RID ROD TD HID HOD RMC RHC RIC ROC TC HOC HIC cC0 cC1 fC1 hmk c0 hd hd2 hd3 hd4 hd5
  go_wp2
  refine J9.out _ _ ?_
  rw [hd6]
  exact hnKeyD _ w WD ⟨rfl, rfl⟩ (Pu.HK.sha kt) hv m bo so bi si ob ip key _ _ ST.out HOD'.out (HR.out.tch ST.out.tch (by intro b _; simp)) HNM.out HLT.out HKL.out rfl rfl rfl
set_option maxHeartbeats 2000000 in
set_option maxRecDepth 100000 in
theorem hmNewO (k s bl : Int) (key : By) (v : Value) (w : World) (hK : 0 < w.heap.size) (hr : Rd w v key) (hnm : Nm v) (hlt : ∀ b, v.ownBlock = some b → b < w.heap.size) (hkl : key.length ≤ 1099511627776) :
    Calls Tryd.prog 30 #[(.func (.func 16) #[.agg #[.int .i64 k, .int .i64 s, .int .i64 bl]] #[]), v] w (HNE w (Pu.HK.own (szOf s bl) (blOf s bl)) key) := by
  obtain ⟨vp, vc, rfl, _, _, _⟩ := id hr
  have HK := Lib.hid hK
  have HR := Lib.hid hr
  have HNM := Lib.hid hnm
  have HLT := Lib.hid hlt
  have HKL := Lib.hid hkl
  clear hK hr hnm hlt hkl
  go_enter Tryd.func30, Tryd.ntmps30
  refine wp_seq_k (fun K0 k0 => ?_)
  have J0 := Lib.hid k0
  clear k0
  go_wp2
  refine J0.out _ _ (wp_seq_k (fun K1 k1 => ?_))
  have J1 := Lib.hid k1
  clear k1
  go_wp2
  generalize hW2 : World.alloc _ _ = W2
  have RM : Hid (Row W2 w.heap.size 64 [.slice none 0 0, .slice none 0 0, .nilIface, .nilIface, .bool false, .bool false, .int .i64 key.length]) := by rw [← hW2]; exact (Row.new w 64 _).alloc _
  have RH : Hid (Row W2 (w.heap.size + 1) 44 [.pointer (some ⟨w.heap.size, 0, none⟩)]) := by
    rw [← hW2]
    have := Row.new (w.alloc (.cells #[.slice none 0 0, .slice none 0 0, .nilIface, .nilIface, .bool false, .bool false, .int .i64 key.length] 64)) 44 [.pointer (some ⟨w.heap.size, 0, none⟩)]
    rwa [World.size_alloc] at this
  have T2 : Hid (Tch [] w W2) := by rw [← hW2]; exact (Tch.alloc _ _).trans (Tch.alloc _ _)
  clear hW2
  obtain ⟨m, hm⟩ : ∃ m, m = w.heap.size := ⟨_, rfl⟩
  obtain ⟨hv, hhv⟩ : ∃ hv, hv = w.heap.size + 1 := ⟨_, rfl⟩
  rw [← hhv] at RH ⊢
  rw [← hm] at RM RH ⊢
  have hmh : m < hv := by omega
  have HMH := Lib.hid hmh
  have HMW := Lib.hid hm
  clear hm hhv
  have c0 : W2.cell? ⟨hv, 0, none⟩ = some (.pointer (some ⟨m, 0, none⟩)) := by rw [RH.out.cell]; rfl
  refine J1.out _ _ (wp_seq_k (fun K2 k2 => ?_))
  have J2 := Lib.hid k2
  clear k2
  go_region_held3 (fun w' => w'.cell? ⟨hv, 0, none⟩ = some (.pointer (some ⟨m, 0, none⟩))) (first | exact c0 | assumption | (rw [World.cell?_setCell_other _ _ _ _ (by intro h; simp only [Addr.mk.injEq] at h; omega)]; assumption)) (first | (go_at_call 16; refine (newO k s bl _).mono ?_; rintro e w3 ⟨bo, so, rfl, h3⟩; have c0' : w3.cell? ⟨hv, 0, none⟩ = some (.pointer (some ⟨m, 0, none⟩)) := h3.out.2.1.cell c0 (by simp); have c2' : w3.cell? ⟨m, 2, none⟩ = some .nilIface := by { rw [(RM.out.tch ((Tch.drewN (S := []) W2 1).trans h3.out.2.1) (by simp)).cell]; rfl }; have f2' : w3.frozen? ⟨m, 2, none⟩ = false := (RM.out.tch ((Tch.drewN (S := []) W2 1).trans h3.out.2.1) (by simp)).free 2))
  have hKm : 0 < m := by rw [HMW.out]; exact HK.out
  have HKM := Lib.hid hKm
  have B3 : Hid (hv < bo ∧ hv < so) := by
    have h1 := RH.out.lt
    have h2 : W2.heap.size ≤ bo := h3.out.2.2.1
    have h4 : W2.heap.size ≤ so := h3.out.2.2.2
    exact ⟨by omega, by omega⟩
  generalize hW4 : World.setCell _ _ _ = W4
  have k4 : Tch [m] w3 W4 := by rw [← hW4]; exact Tch.setCell _ _ _ (by simp)
  have RM4 : Hid (Row W4 m 64 [.slice none 0 0, .slice none 0 0, .iface 40 (.pointer (some ⟨bo, 0, none⟩)), .nilIface, .bool false, .bool false, .int .i64 key.length]) := by
    rw [← hW4]; exact (RM.out.tch ((Tch.drewN (S := []) W2 1).trans h3.out.2.1) (by simp)).set 2 _
  have RH4 : Hid (Row W4 hv 44 [.pointer (some ⟨m, 0, none⟩)]) := (RH.out.tch ((Tch.drewN (S := []) W2 1).trans h3.out.2.1) (by simp)).tch k4 (by simp only [List.mem_singleton]; omega)
  have T4 : Hid (Tch [] w W4) := (T2.out.trans ((Tch.drewN (S := []) W2 1).trans h3.out.2.1)).new k4 (by intro i hi; right; rw [List.mem_singleton.1 hi, HMW.out]; exact Nat.le_refl _)
  have HO4 : Hid (HIs W4 (Pu.HK.own (szOf s bl) (blOf s bl)) bo so []) := by
    have := B3.out
    exact h3.out.1.tch k4 (by simp only [List.mem_singleton]; omega) (by simp only [List.mem_singleton]; omega) (by simp only [List.mem_singleton]; omega)
  clear hW4 k4 h3 c0 c0' c2' f2' RM RH T2 hKm
  have c0 : W4.cell? ⟨hv, 0, none⟩ = some (.pointer (some ⟨m, 0, none⟩)) := by rw [RH4.out.cell]; rfl
  go_wp2
  refine J2.out _ _ (wp_seq_k (fun K3 k3 => ?_))
  have J3 := Lib.hid k3
  clear k3
  go_region_held3 (fun w' => w'.cell? ⟨hv, 0, none⟩ = some (.pointer (some ⟨m, 0, none⟩))) (first | exact c0 | assumption | (rw [World.cell?_setCell_other _ _ _ _ (by intro h; simp only [Addr.mk.injEq] at h; omega)]; assumption)) (first | (go_at_call 16; refine (newO k s bl _).mono ?_; rintro e w5 ⟨bi, si, rfl, h5⟩; have c0' : w5.cell? ⟨hv, 0, none⟩ = some (.pointer (some ⟨m, 0, none⟩)) := h5.out.2.1.cell c0 (by simp); have c3' : w5.cell? ⟨m, 3, none⟩ = some .nilIface := by { rw [(RM4.out.tch ((Tch.drewN (S := []) W4 1).trans h5.out.2.1) (by simp)).cell]; rfl }; have f3' : w5.frozen? ⟨m, 3, none⟩ = false := (RM4.out.tch ((Tch.drewN (S := []) W4 1).trans h5.out.2.1) (by simp)).free 3))
  have B5 : Hid (bo < bi ∧ bo < si ∧ so < bi ∧ so < si) := by
    have h1 := HO4.out.lt
    have h2 : W4.heap.size ≤ bi := h5.out.2.2.1
    have h4 : W4.heap.size ≤ si := h5.out.2.2.2
    exact ⟨by omega, by omega, by omega, by omega⟩
  generalize hW6 : World.setCell _ _ _ = W6
  have k6 : Tch [m] w5 W6 := by rw [← hW6]; exact Tch.setCell _ _ _ (by simp)
  have RM6 : Hid (Row W6 m 64 [.slice none 0 0, .slice none 0 0, .iface 40 (.pointer (some ⟨bo, 0, none⟩)), .iface 40 (.pointer (some ⟨bi, 0, none⟩)), .bool false, .bool false, .int .i64 key.length]) := by
    rw [← hW6]; exact (RM4.out.tch ((Tch.drewN (S := []) W4 1).trans h5.out.2.1) (by simp)).set 3 _
  have RH6 : Hid (Row W6 hv 44 [.pointer (some ⟨m, 0, none⟩)]) := (RH4.out.tch ((Tch.drewN (S := []) W4 1).trans h5.out.2.1) (by simp)).tch k6 (by simp only [List.mem_singleton]; omega)
  have T6 : Hid (Tch [] w W6) := (T4.out.trans ((Tch.drewN (S := []) W4 1).trans h5.out.2.1)).new k6 (by intro i hi; right; rw [List.mem_singleton.1 hi, HMW.out]; exact Nat.le_refl _)
  have HO6 : Hid (HIs W6 (Pu.HK.own (szOf s bl) (blOf s bl)) bo so []) := by
    have := B3.out; have := HKM.out
    exact (HO4.out.tch ((Tch.drewN (S := []) W4 1).trans h5.out.2.1) (by simp) (by simp) (by simp)).tch k6 (by simp only [List.mem_singleton]; omega) (by simp only [List.mem_singleton]; omega) (by simp only [List.mem_singleton]; omega)
  have HI6 : Hid (HIs W6 (Pu.HK.own (szOf s bl) (blOf s bl)) bi si []) := by
    have := B3.out; have := B5.out; have := HKM.out
    exact h5.out.1.tch k6 (by simp only [List.mem_singleton]; omega) (by simp only [List.mem_singleton]; omega) (by simp only [List.mem_singleton]; omega)
  clear hW6 k6 h5 c0 c0' c3' f3' RM4 RH4 T4 HO4
  go_wp2
  refine J3.out _ _ (wp_seq_k (fun K4 k4 => ?_))
  have J4 := Lib.hid k4
  clear k4
  go_wp2
  have HO6s : Hid (bo < W6.heap.size ∧ so < W6.heap.size) := HO6.out.lt
  have HI6s : Hid (bi < W6.heap.size ∧ si < W6.heap.size) := HI6.out.lt
  generalize hW7 : World.alloc _ _ = W7
  have k7 : Tch [] W6 W7 := by rw [← hW7]; exact Tch.alloc _ _
  have U7 : Hid (Row W7 W6.heap.size 4 [.bool true]) := by rw [← hW7]; exact Row.new W6 4 _
  have RM7 : Hid (Row W7 m 64 [.slice none 0 0, .slice none 0 0, .iface 40 (.pointer (some ⟨bo, 0, none⟩)), .iface 40 (.pointer (some ⟨bi, 0, none⟩)), .bool false, .bool false, .int .i64 key.length]) := RM6.out.tch k7 (by simp)
  have RH7 : Hid (Row W7 hv 44 [.pointer (some ⟨m, 0, none⟩)]) := RH6.out.tch k7 (by simp)
  have T7 : Hid (Tch [] w W7) := T6.out.trans k7
  have HO7 : Hid (HIs W7 (Pu.HK.own (szOf s bl) (blOf s bl)) bo so []) := HO6.out.tch k7 (by simp) (by simp) (by simp)
  have HI7 : Hid (HIs W7 (Pu.HK.own (szOf s bl) (blOf s bl)) bi si []) := HI6.out.tch k7 (by simp) (by simp) (by simp)
  clear hW7 k7 RM6 RH6 T6 HO6 HI6
  have c0 : W7.cell? ⟨hv, 0, none⟩ = some (.pointer (some ⟨m, 0, none⟩)) := by rw [RH7.out.cell]; rfl
  have c2 : W7.cell? ⟨m, 2, none⟩ = some (.iface 40 (.pointer (some ⟨bo, 0, none⟩))) := by rw [RM7.out.cell]; rfl
  have c3 : W7.cell? ⟨m, 3, none⟩ = some (.iface 40 (.pointer (some ⟨bi, 0, none⟩))) := by rw [RM7.out.cell]; rfl
  obtain ⟨x, hx⟩ := rowO HO7.out
  obtain ⟨y, hy⟩ := rowO HI7.out
  have HCL := Lib.hid (closO W7 hv W6.heap.size m bo bi x y c0 c2 c3 hx hy (by have := B5.out; omega))
  have hmf : ∀ (fn : Fn) (first cap : Array Value) (w : World), (Instr.makeFunc fn first cap).run Tryd.prog w = .ok (.func fn first cap) w := fun _ _ _ _ => rfl
  have hnot : (Op.unary .not (.bool true)) = pure (.bool false) := rfl
  clear hx hy x y c0 c2 c3
  refine J4.out _ _ (wp_seq_k (fun K5 k5 => ?_))
  have J5 := Lib.hid k5
  clear k5
  go_wp2_with (fail)
  refine HCL.out.mono ?_
  rintro e W8 ⟨rfl, h8⟩
  have k8 : Tch [] W7 W8 := h8.out
  have U8 : Hid (Row W8 W6.heap.size 4 [.bool true]) := U7.out.tch k8 (by simp)
  have RM8 : Hid (Row W8 m 64 [.slice none 0 0, .slice none 0 0, .iface 40 (.pointer (some ⟨bo, 0, none⟩)), .iface 40 (.pointer (some ⟨bi, 0, none⟩)), .bool false, .bool false, .int .i64 key.length]) := RM7.out.tch k8 (by simp)
  have RH8 : Hid (Row W8 hv 44 [.pointer (some ⟨m, 0, none⟩)]) := RH7.out.tch k8 (by simp)
  have T8 : Hid (Tch [] w W8) := T7.out.trans k8
  have HO8 : Hid (HIs W8 (Pu.HK.own (szOf s bl) (blOf s bl)) bo so []) := HO7.out.tch k8 (by simp) (by simp) (by simp)
  have HI8 : Hid (HIs W8 (Pu.HK.own (szOf s bl) (blOf s bl)) bi si []) := HI7.out.tch k8 (by simp) (by simp) (by simp)
  clear k8 h8 HCL U7 RM7 RH7 T7 HO7 HI7
  have c0 : W8.cell? ⟨hv, 0, none⟩ = some (.pointer (some ⟨m, 0, none⟩)) := by rw [RH8.out.cell]; rfl
  have c3 : W8.cell? ⟨m, 3, none⟩ = some (.iface 40 (.pointer (some ⟨bi, 0, none⟩))) := by rw [RM8.out.cell]; rfl
  have cu : W8.cell? ⟨W6.heap.size, 0, none⟩ = some (.bool true) := by rw [U8.out.cell]; rfl
  go_wp2
  refine J5.out _ _ (wp_seq_k (fun K6 k6 => ?_))
  have J6 := Lib.hid k6
  clear k6
  go_wp2
  refine J6.out _ _ (wp_seq_k (fun K7 k7 => ?_))
  have J7 := Lib.hid k7
  clear k7
  have e1 := mBlockSize (Pu.HK.own (szOf s bl) (blOf s bl))
  have e2 := cBlockSize (Pu.HK.own (szOf s bl) (blOf s bl))
  go_wp2_with (fail)
  refine (hBlock (Pu.HK.own (szOf s bl) (blOf s bl)) bi si [] W8 HI8.out).mono ?_
  rintro e W9 ⟨rfl, rfl⟩
  obtain ⟨N, hN⟩ : ∃ N, N = Pu.HK.block (Pu.HK.own (szOf s bl) (blOf s bl)) := ⟨_, rfl⟩
  have HN := Lib.hid hN
  have hN64 : N ≤ 64 := by rw [hN]; exact Pu.HK.ok.block_le (own_ok s bl)
  rw [← hN]
  clear hN c3 cu e1 e2 hmf hnot U8
  go_wp2
  refine J7.out _ _ (wp_seq_k (fun K8 k8 => ?_))
  have J8 := Lib.hid k8
  clear k8
  obtain ⟨WA, hWA⟩ : ∃ WA, WA = W8.drew.alloc (.cells (List.replicate N (Value.int .u8 0)).toArray 5) := ⟨_, rfl⟩
  have hmk : (Instr.makeSlice 24 (.int .i64 (N : Int)) (.int .i64 (N : Int))).run Tryd.prog W8.drew = .ok (.slice (some ⟨W8.heap.size, 0, none⟩) N N) WA := by
    rw [hWA]; exact run_make_by N N (Nat.le_refl _) (by omega) W8.drew
  have kA : Tch [] W8 WA := by rw [hWA]; exact (Tch.drewN (S := []) W8 1).trans (Tch.alloc _ _)
  have RMA : Hid (Row WA m 64 [.slice none 0 0, .slice none 0 0, .iface 40 (.pointer (some ⟨bo, 0, none⟩)), .iface 40 (.pointer (some ⟨bi, 0, none⟩)), .bool false, .bool false, .int .i64 key.length]) := RM8.out.tch kA (by simp)
  have RHA : Hid (Row WA hv 44 [.pointer (some ⟨m, 0, none⟩)]) := RH8.out.tch kA (by simp)
  have RIA : Hid (Row WA W8.heap.size 5 (List.replicate N (Value.int .u8 0))) := by rw [hWA]; exact Row.new W8.drew 5 _
  have TA : Hid (Tch [] w WA) := T8.out.trans kA
  have HOA : Hid (HIs WA (Pu.HK.own (szOf s bl) (blOf s bl)) bo so []) := HO8.out.tch kA (by simp) (by simp) (by simp)
  have HIA : Hid (HIs WA (Pu.HK.own (szOf s bl) (blOf s bl)) bi si []) := HI8.out.tch kA (by simp) (by simp) (by simp)
  have IPL : Hid (bo < W8.heap.size ∧ so < W8.heap.size ∧ bi < W8.heap.size ∧ si < W8.heap.size) := ⟨HO8.out.lt.1, HO8.out.lt.2, HI8.out.lt.1, HI8.out.lt.2⟩
  have cA0 : WA.cell? ⟨hv, 0, none⟩ = some (.pointer (some ⟨m, 0, none⟩)) := by rw [RHA.out.cell]; rfl
  have cA1 : WA.cell? ⟨m, 1, none⟩ = some (.slice none 0 0) := by rw [RMA.out.cell]; rfl
  have fA1 := RMA.out.free 1
  clear hWA kA RM8 RH8 T8 HO8 HI8
  go_region_held3 (fun w' => w'.cell? ⟨hv, 0, none⟩ = some (.pointer (some ⟨m, 0, none⟩))) (first | exact c0 | exact cA0 | (rw [World.cell?_setCell_other _ _ _ _ (by intro h; simp only [Addr.mk.injEq] at h; omega)]; assumption)) (fail)
  obtain ⟨ip, hip⟩ : ∃ ip, ip = W8.heap.size := ⟨_, rfl⟩
  rw [← hip] at RIA IPL ⊢
  clear hip
  generalize hWB : World.setCell _ _ _ = WB
  have kB : Tch [m] WA WB := by rw [← hWB]; exact Tch.setCell _ _ _ (by simp)
  have hd := B3.out
  have hd2 := B5.out
  have hd3 := IPL.out
  have hd4 := HKM.out
  have RMB : Hid (Row WB m 64 [.slice none 0 0, .slice (some ⟨ip, 0, none⟩) N N, .iface 40 (.pointer (some ⟨bo, 0, none⟩)), .iface 40 (.pointer (some ⟨bi, 0, none⟩)), .bool false, .bool false, .int .i64 key.length]) := by rw [← hWB]; exact RMA.out.set 1 _
  have RHB : Hid (Row WB hv 44 [.pointer (some ⟨m, 0, none⟩)]) := RHA.out.tch kB (by simp only [List.mem_singleton]; omega)
  have RIB : Hid (Row WB ip 5 (List.replicate N (Value.int .u8 0))) := RIA.out.tch kB (by simp only [List.mem_singleton]; omega)
  have TB : Hid (Tch [] w WB) := TA.out.new kB (by intro i hi; right; rw [List.mem_singleton.1 hi, HMW.out]; exact Nat.le_refl _)
  have HOB : Hid (HIs WB (Pu.HK.own (szOf s bl) (blOf s bl)) bo so []) := HOA.out.tch kB (by simp only [List.mem_singleton]; omega) (by simp only [List.mem_singleton]; omega) (by simp only [List.mem_singleton]; omega)
  have HIB : Hid (HIs WB (Pu.HK.own (szOf s bl) (blOf s bl)) bi si []) := HIA.out.tch kB (by simp only [List.mem_singleton]; omega) (by simp only [List.mem_singleton]; omega) (by simp only [List.mem_singleton]; omega)
  clear hWB kB RMA RHA RIA TA HOA HIA cA0 cA1 fA1 c0 hd hd2 hd3 hd4 hmk
  have c0 : WB.cell? ⟨hv, 0, none⟩ = some (.pointer (some ⟨m, 0, none⟩)) := by rw [RHB.out.cell]; rfl
  go_wp2
  refine J8.out _ _ (wp_seq_k (fun K9 k9 => ?_))
  have J9 := Lib.hid k9
  clear k9
  obtain ⟨WC, hWC⟩ : ∃ WC, WC = WB.drew.alloc (.cells (List.replicate N (Value.int .u8 0)).toArray 5) := ⟨_, rfl⟩
  have hmk : (Instr.makeSlice 24 (.int .i64 (N : Int)) (.int .i64 (N : Int))).run Tryd.prog WB.drew = .ok (.slice (some ⟨WB.heap.size, 0, none⟩) N N) WC := by
    rw [hWC]; exact run_make_by N N (Nat.le_refl _) (by omega) WB.drew
  have kC : Tch [] WB WC := by rw [hWC]; exact (Tch.drewN (S := []) WB 1).trans (Tch.alloc _ _)
  have RMC : Hid (Row WC m 64 [.slice none 0 0, .slice (some ⟨ip, 0, none⟩) N N, .iface 40 (.pointer (some ⟨bo, 0, none⟩)), .iface 40 (.pointer (some ⟨bi, 0, none⟩)), .bool false, .bool false, .int .i64 key.length]) := RMB.out.tch kC (by simp)
  have RHC : Hid (Row WC hv 44 [.pointer (some ⟨m, 0, none⟩)]) := RHB.out.tch kC (by simp)
  have RIC : Hid (Row WC ip 5 (List.replicate N (Value.int .u8 0))) := RIB.out.tch kC (by simp)
  have ROC : Hid (Row WC WB.heap.size 5 (List.replicate N (Value.int .u8 0))) := by rw [hWC]; exact Row.new WB.drew 5 _
  have TC : Hid (Tch [] w WC) := TB.out.trans kC
  have HOC : Hid (HIs WC (Pu.HK.own (szOf s bl) (blOf s bl)) bo so []) := HOB.out.tch kC (by simp) (by simp) (by simp)
  have HIC : Hid (HIs WC (Pu.HK.own (szOf s bl) (blOf s bl)) bi si []) := HIB.out.tch kC (by simp) (by simp) (by simp)
  have OPL : Hid (ip < WB.heap.size) := RIB.out.lt
  have cC0 : WC.cell? ⟨hv, 0, none⟩ = some (.pointer (some ⟨m, 0, none⟩)) := by rw [RHC.out.cell]; rfl
  have cC1 : WC.cell? ⟨m, 0, none⟩ = some (.slice none 0 0) := by rw [RMC.out.cell]; rfl
  have fC1 := RMC.out.free 0
  clear hWC kC RMB RHB RIB TB HOB HIB
  go_region_held3 (fun w' => w'.cell? ⟨hv, 0, none⟩ = some (.pointer (some ⟨m, 0, none⟩))) (first | exact c0 | exact cC0 | (rw [World.cell?_setCell_other _ _ _ _ (by intro h; simp only [Addr.mk.injEq] at h; omega)]; assumption)) (fail)
  obtain ⟨ob, hob⟩ : ∃ ob, ob = WB.heap.size := ⟨_, rfl⟩
  rw [← hob] at ROC OPL ⊢
  clear hob
  generalize hWD : World.setCell _ _ _ = WD
  have kD : Tch [m] WC WD := by rw [← hWD]; exact Tch.setCell _ _ _ (by simp)
  have hd := B3.out
  have hd2 := B5.out
  have hd3 := IPL.out
  have hd4 := HKM.out
  have hd5 := OPL.out
  have hd6 := HN.out
  have RMD : Row WD m 64 [.slice (some ⟨ob, 0, none⟩) N N, .slice (some ⟨ip, 0, none⟩) N N, .iface 40 (.pointer (some ⟨bo, 0, none⟩)), .iface 40 (.pointer (some ⟨bi, 0, none⟩)), .bool false, .bool false, .int .i64 key.length] := by rw [← hWD]; exact RMC.out.set 0 _
  have RHD : Row WD hv 44 [.pointer (some ⟨m, 0, none⟩)] := RHC.out.tch kD (by simp only [List.mem_singleton]; omega)
  have RID : Row WD ip 5 (List.replicate N (Value.int .u8 0)) := RIC.out.tch kD (by simp only [List.mem_singleton]; omega)
  have ROD : Row WD ob 5 (List.replicate N (Value.int .u8 0)) := ROC.out.tch kD (by simp only [List.mem_singleton]; omega)
  have TD : Tch [] w WD := TC.out.new kD (by intro i hi; right; rw [List.mem_singleton.1 hi, HMW.out]; exact Nat.le_refl _)
  have HOD : HIs WD (Pu.HK.own (szOf s bl) (blOf s bl)) bo so [] := HOC.out.tch kD (by simp only [List.mem_singleton]; omega) (by simp only [List.mem_singleton]; omega) (by simp only [List.mem_singleton]; omega)
  have HID : HIs WD (Pu.HK.own (szOf s bl) (blOf s bl)) bi si [] := HIC.out.tch kD (by simp only [List.mem_singleton]; omega) (by simp only [List.mem_singleton]; omega) (by simp only [List.mem_singleton]; omega)
  have ST : Hid (NewSt w WD (Pu.HK.own (szOf s bl) (blOf s bl)) hv m bo so bi si ob ip (List.replicate (Pu.HK.block (Pu.HK.own (szOf s bl) (blOf s bl))) 0) (List.replicate (Pu.HK.block (Pu.HK.own (szOf s bl) (blOf s bl))) 0) [] key.length) := by
    rw [hd6] at RMD RID ROD
    refine ⟨(own_ok s bl), RHD, RMD, ?_, ?_, by simp, by simp, ⟨_, HOD⟩, HID, TD, hd4, by rw [HMW.out]; exact Nat.le_refl _, HMH.out, hd, hd2, ⟨hd3.2.2.1, hd3.2.2.2⟩, hd5⟩
    · rw [List.map_replicate]; exact ROD
    · rw [List.map_replicate]; exact RID
  have HOD' := Lib.hid HOD
  clear hWD kD RMD RHD RID ROD TD HID HOD RMC RHC RIC ROC TC HOC HIC cC0 cC1 fC1 hmk c0 hd hd2 hd3 hd4 hd5
  go_wp2
  refine J9.out _ _ ?_
  rw [hd6]
  exact hnKeyO _ w WD ⟨rfl, rfl⟩ (Pu.HK.own (szOf s bl) (blOf s bl)) hv m bo so bi si ob ip key _ _ ST.out HOD'.out (HR.out.tch ST.out.tch (by intro b _; simp)) HNM.out HLT.out HKL.out rfl rfl rfl
end Go.Proofs.YtgomodhhomekpaaDoor

/-
  impl.mac.
-/
namespace Go.Proofs.YtgomodhhomekpaaDoor
open Go.RowKit Pu Ar
theorem HNE.earlier {w w1 w' : World} {hk : Pu.HK} {key : By} {e : Ending} (h : HNE w1 hk key e w') (k : Tch [] w w1) : HNE w hk key e w' := by
  obtain ⟨F, rfl, h1⟩ := h
  refine ⟨F, rfl, h1.out.1, h1.out.2.1, k.trans h1.out.2.2.1, ?_⟩
  intro b hb
  rcases h1.out.2.2.2 b hb with h | h
  · exact .inl h
  · exact .inr (Nat.le_trans k.size h)
theorem KIs.lt {w : World} {kt : List UInt32} (h : KIs w kt) : 0 < w.heap.size := h.2.lt
set_option maxHeartbeats 1000000 in
set_option maxRecDepth 100000 in
theorem iMac0 (kt : List UInt32) (k s bl : Int) (key : By) (v : Value) (w : World) (hK : KIs w kt) (hv : Rd w v key) (hl : key.length ≤ 1099511627776) :
    Calls Tryd.prog 21 #[.agg #[.int .i64 k, .int .i64 s, .int .i64 bl], v] w (HNE w (kindOf kt k s bl) key) := by
  have HV := Lib.hid hv
  have HL := Lib.hid hl
  have HK := Lib.hid hK
  clear hv hl hK
  go_enter Tryd.func21, Tryd.ntmps21
  refine wp_seq_k (fun K0 k0 => ?_)
  have J0 := Lib.hid k0
  clear k0
  go_wp2
  generalize hW1 : World.alloc _ _ = W1
  have R1 : Row W1 w.heap.size 23 [.int .i64 k, .int .i64 s, .int .i64 bl] := by rw [← hW1]; exact Row.new w 23 _
  have T1 : Hid (Tch [] w W1) := by rw [← hW1]; exact Tch.alloc _ _
  have c0 : W1.cell? ⟨w.heap.size, 0, none⟩ = some (.int .i64 k) := by rw [R1.cell]; rfl
  have c1 : W1.cell? ⟨w.heap.size, 1, none⟩ = some (.int .i64 s) := by rw [R1.cell]; rfl
  have c2 : W1.cell? ⟨w.heap.size, 2, none⟩ = some (.int .i64 bl) := by rw [R1.cell]; rfl
  have HR1 := Lib.hid R1
  clear hW1 R1
  obtain ⟨c, hc⟩ : ∃ c, c = w.heap.size := ⟨_, rfl⟩
  rw [← hc] at c0 c1 c2 HR1 ⊢
  clear hc
  by_cases hk : k = 1
  · subst hk
    refine J0.out _ _ (wp_seq_k (fun K1 k1 => ?_))
    have J1 := Lib.hid k1
    clear k1
    go_wp2_with (fail)
    refine (iCopied v key W1 (HV.out.tch T1.out (by intro i _; simp)) (by have := HL.out; omega)).mono ?_
    rintro e W2 ⟨v2, rfl, h2⟩
    go_wp2_with (fail)
    refine (hmNewD kt key v2 W2 (HK.out.tch (T1.out.trans h2.out.1.tchNil) (by simp)) h2.out.1.1.rd h2.out.1.1.nm h2.out.1.1.lt HL.out).mono ?_
    rintro e W3 ⟨F, rfl, h3⟩
    go_wp2
    go_ret
    rw [kind_sha]
    exact HNE.earlier ⟨F, rfl, h3⟩ (T1.out.trans h2.out.1.tchNil)
  · have hkb : (k == 1) = false := by simpa using hk
    refine J0.out _ _ (wp_seq_k (fun K1 k1 => ?_))
    have J1 := Lib.hid k1
    clear k1
    have hmf : ∀ (fn : Fn) (first cap : Array Value) (w : World), (Instr.makeFunc fn first cap).run Tryd.prog w = .ok (.func fn first cap) w := fun _ _ _ _ => rfl
    go_wp2
    refine J1.out _ _ (wp_seq_k (fun K2 k2 => ?_))
    have J2 := Lib.hid k2
    clear k2
    go_region_held3 (fun w' => w'.cell? ⟨c, 0, none⟩ = some (.int .i64 k) ∧ w'.cell? ⟨c, 1, none⟩ = some (.int .i64 s) ∧ w'.cell? ⟨c, 2, none⟩ = some (.int .i64 bl)) (first | exact ⟨c0, c1, c2⟩ | exact KEEP2.out | exact KEEP3.out) (first | (go_at_call 14; refine (iCopied v key W1.drew (HV.out.tch (T1.out.trans (Tch.drewN W1 1)) (by intro i _; simp)) (by have := HL.out; omega)).mono ?_; rintro e W2 ⟨v2, rfl, h2⟩; have KEEP2 : Hid (W2.cell? ⟨c, 0, none⟩ = some (.int .i64 k) ∧ W2.cell? ⟨c, 1, none⟩ = some (.int .i64 s) ∧ W2.cell? ⟨c, 2, none⟩ = some (.int .i64 bl)) := ⟨h2.out.1.tchNil.cell c0 (by simp), h2.out.1.tchNil.cell c1 (by simp), h2.out.1.tchNil.cell c2 (by simp)⟩) | (go_at_call 30; refine (hmNewO k s bl key _ _ ((HK.out.tch ((T1.out.trans (Tch.drewN W1 1)).trans h2.out.1.tchNil) (by simp)).lt) h2.out.1.1.rd h2.out.1.1.nm h2.out.1.1.lt HL.out).mono ?_; rintro e W3 ⟨F, rfl, h3⟩; have KEEP3 : Hid (W3.cell? ⟨c, 0, none⟩ = some (.int .i64 k) ∧ W3.cell? ⟨c, 1, none⟩ = some (.int .i64 s) ∧ W3.cell? ⟨c, 2, none⟩ = some (.int .i64 bl)) := ⟨h3.out.2.2.1.cell KEEP2.out.1 (by simp), h3.out.2.2.1.cell KEEP2.out.2.1 (by simp), h3.out.2.2.1.cell KEEP2.out.2.2 (by simp)⟩))
    all_goals (go_wp2; refine J2.out _ _ ?_; go_wp2; go_ret; rw [bad_kind kt k s bl hk]; exact HNE.earlier ⟨F, rfl, h3⟩ ((T1.out.trans (Tch.drewN W1 1)).trans h2.out.1.tchNil))
end Go.Proofs.YtgomodhhomekpaaDoor

/-
  impl.Mac.
-/
namespace Go.Proofs.YtgomodhhomekpaaDoor
open Go.RowKit Pu Ar
/-- The slice v of slices reads as the pieces ps. -/
def PRd (w : World) (v : Value) (ps : List By) : Prop :=
  ∃ p cap, v = .slice p ps.length cap ∧ ps.length ≤ cap ∧ cap ≤ maxLen ∧ (ps = [] ∨ ∃ b o, p = some ⟨b, o, none⟩ ∧ ∀ i x, ps[i]? = some x → ∃ u, w.cell? ⟨b, o + i, none⟩ = some u ∧ Rd w u x)
theorem Rd.tchNil {w w' : World} {v : Value} {l : By} (h : Rd w v l) (k : Tch [] w w') : Rd w' v l := h.tch k (by intro b _; simp)
def IAP (a : Act) (w : World) (hk : Pu.HK) (F : HF) (o ib l : By) (i : Nat) (a' : Act) (w' : World) : Prop :=
  Frm 26 a' ∧ Same [7, 13, 14] a a' ∧ G a' 15 = .int .i64 ((i : Int) + 1) ∧ Hid (MacAt w' hk F o ib l) ∧ Hid (∃ wm, Tch [] w wm ∧ Tch [F.bi, F.si] wm w')
set_option maxRecDepth 100000 in
theorem iaRound (a : Act) (w : World) (h : Frm 26 a) (Q : Exit → Act → World → Prop) (hk : Pu.HK) (F : HF) (o ib l x : By) (b po i n cap : Nat) (u : Value)
    (hM : MacAt w hk F o ib l) (hi : i < n) (hn : (n : Int) ≤ 9223372036854775807) (cu : w.cell? ⟨b, po + i, none⟩ = some u) (hx : Rd w u x) (hlen : (l ++ x).length ≤ 1099511627776)
    (g7 : G a 7 = .pointer (some ⟨F.m, 0, none⟩)) (g13 : G a 13 = .slice (some ⟨b, po, none⟩) n cap) (g14 : G a 14 = .int .i64 n) (g15 : G a 15 = .int .i64 i)
    (hQ : ∀ a' w', IAP a w hk F o ib (l ++ x) i a' w' → Q .normal a' w') :
    (part (bodyOf Tryd.f10) [true, true, false, true, false, false]).wp Tryd.prog Q a w := by
  have hii : (i : Int) < n := by exact_mod_cast hi
  conv => arg 2; whnf
  rw [lit26 a h]
  simp only [g7, g13, g14, g15]
  have G7 := Lib.hid g7
  have G13 := Lib.hid g13
  have G14 := Lib.hid g14
  have HM := Lib.hid hM
  have HX := Lib.hid hx
  have HL := Lib.hid hlen
  clear h g7 g13 g14 g15 hM hx hlen
  go_wp2_with (fail)
  refine (iCopied u x w HX.out (by have := HL.out; rw [List.length_append] at this; omega)).mono ?_
  rintro e w1 ⟨v1, rfl, h1⟩
  have M1 : Hid (MacAt w1 hk F o ib l) := HM.out.tchNew h1.out.1.tchNil (by simp)
  have of1 : Off [F.bi, F.si] v1 := h1.out.1.fresh (by
    intro b hb; exact HM.out.lt b (by simp only [HF.all, List.mem_cons, List.not_mem_nil, or_false] at hb ⊢; omega))
  have OF1 := Lib.hid of1
  clear of1
  go_wp2_with (fail)
  refine (macWrite hk F o ib l x v1 w1 M1.out h1.out.1.1.rd h1.out.1.1.nm OF1.out HL.out).mono ?_
  rintro e w2 ⟨rfl, h2⟩
  go_wp2
  have E7 := G7.out
  have E13 := G13.out
  have E14 := G14.out
  exact ⟨⟨rfl, rfl⟩, ⟨E7.symm, E13.symm, E14.symm, trivial⟩, rfl, h2.out.1, ⟨w1, h1.out.1.tchNil, h2.out.2⟩⟩
def IAX (a : Act) (w : World) (a' : Act) (w' : World) : Prop := Frm 26 a' ∧ Same [7] a a' ∧ w' = w
set_option maxRecDepth 100000 in
theorem iaLeave (a : Act) (w : World) (h : Frm 26 a) (Q : Exit → Act → World → Prop) (n : Nat) (g14 : G a 14 = .int .i64 n) (g15 : G a 15 = .int .i64 n)
    (hQ : ∀ a' w', IAX a w a' w' → Q (.exit 0) a' w') :
    (part (bodyOf Tryd.f10) [true, true, false, true, false, false]).wp Tryd.prog Q a w := by
  conv => arg 2; whnf
  rw [lit26 a h]
  simp only [g14, g15]
  clear h g14 g15
  go_wp2
  exact ⟨⟨rfl, rfl⟩, ⟨rfl, trivial⟩, rfl⟩
theorem iaLoop_eq : part (bodyOf Tryd.f10) [true, true, false, true, false] = .loop (part (bodyOf Tryd.f10) [true, true, false, true, false, false]) := by kernel_rfl
structure IAI (a0 : Act) (w0 : World) (wb : World) (hk : Pu.HK) (F : HF) (o ib l : By) (ps : List By) (i : Nat) (a : Act) (w : World) : Prop where
  frm : Frm 26 a
  same : Same [7, 13, 14] a0 a
  le : i ≤ ps.length
  g15 : G a 15 = .int .i64 (i : Int)
  mac : MacAt w hk F o ib (l ++ (ps.take i).flatten)
  tch : Tch [] wb w
def IAE (a : Act) (wb : World) (hk : Pu.HK) (F : HF) (o ib l : By) (a' : Act) (w' : World) : Prop :=
  Frm 26 a' ∧ Same [7] a a' ∧ Hid (MacAt w' hk F o ib l ∧ Tch [] wb w')
theorem flatten_take_le (ps : List By) (i : Nat) : (ps.take i).flatten.length ≤ ps.flatten.length := by
  have e : ps.flatten = (ps.take i).flatten ++ (ps.drop i).flatten := by rw [← List.flatten_append, List.take_append_drop]
  rw [e, List.length_append]; omega
theorem PRd.tchNil {w w' : World} {v : Value} {ps : List By} (h : PRd w v ps) (k : Tch [] w w') : PRd w' v ps := by
  obtain ⟨p, cap, hv, h1, h2, h3⟩ := h
  refine ⟨p, cap, hv, h1, h2, ?_⟩
  rcases h3 with h | ⟨b, o, rfl, h⟩
  · exact .inl h
  · refine .inr ⟨b, o, rfl, fun i x hx => ?_⟩
    obtain ⟨u, hu, hr⟩ := h i x hx
    exact ⟨u, k.cell hu (by simp), hr.tchNil k⟩
theorem iaLoop (a : Act) (w wb : World) (h : Frm 26 a) (Q : Exit → Act → World → Prop) (hk : Pu.HK) (F : HF) (o ib l : By) (ps : List By) (v : Value)
    (hM : MacAt w hk F o ib l) (hT : Tch [] wb w) (hP : PRd wb v ps) (hF : wb.heap.size ≤ F.bi ∧ wb.heap.size ≤ F.si) (hlen : (l ++ ps.flatten).length ≤ 1099511627776)
    (g7 : G a 7 = .pointer (some ⟨F.m, 0, none⟩)) (g13 : G a 13 = v) (g14 : G a 14 = .int .i64 ps.length) (g15 : G a 15 = .int .i64 0)
    (hQ : ∀ a' w', IAE a wb hk F o ib (l ++ ps.flatten) a' w' → Q (.exit 0) a' w') :
    (part (bodyOf Tryd.f10) [true, true, false, true, false]).wp Tryd.prog Q a w := by
  rw [iaLoop_eq]
  obtain ⟨q, cap, hv, hcap, hmax, hrd⟩ := hP
  unfold maxLen at hmax
  refine wp_loop (fun a' w' => ∃ i, IAI a w wb hk F o ib l ps i a' w') (fun a' _ => ps.length - (intOf (G a' 15)).toNat) ⟨0, h, by simp [Same], by omega, g15, by simpa using hM, hT⟩ ?_
  rintro a1 w1 ⟨i, I⟩
  by_cases hi : i < ps.length
  · obtain ⟨pb, po, rfl, hcell⟩ : ∃ b o, q = some ⟨b, o, none⟩ ∧ ∀ i x, ps[i]? = some x → ∃ u, wb.cell? ⟨b, o + i, none⟩ = some u ∧ Rd wb u x := by
      rcases hrd with h | h
      · rw [h] at hi; simp at hi
      · exact h
    obtain ⟨u, cu, hu⟩ := hcell i _ (List.getElem?_eq_getElem hi)
    have ef : l ++ (ps.take (i + 1)).flatten = (l ++ (ps.take i).flatten) ++ ps[i] := by
      rw [List.take_succ_eq_append_getElem hi, List.flatten_append, List.append_assoc]; simp
    have hle := flatten_take_le ps (i + 1)
    refine iaRound a1 w1 I.frm _ hk F o ib _ ps[i] pb po i ps.length cap u I.mac hi (by omega) (I.tch.cell cu (by simp)) (hu.tchNil I.tch) (by
      rw [← ef, List.length_append]; rw [List.length_append] at hlen; omega) ((I.same.get 7 rfl).trans g7) ((I.same.get 13 rfl).trans (g13.trans hv)) ((I.same.get 14 rfl).trans g14) I.g15 ?_
    rintro a' w' ⟨p1, p2, p3, p4, wm, p5, p6⟩
    simp only [Exit.then]
    refine ⟨⟨i + 1, p1, ?_, by omega, p3, by rw [ef]; exact p4.out, (I.tch.trans p5).new p6 ?_⟩, ?_⟩
    · have s := I.same
      simp only [Same] at s p2 ⊢
      simp only [p2, s, and_self]
    · intro j hj; right; simp only [List.mem_cons, List.not_mem_nil, or_false] at hj; omega
    · rw [p3, I.g15]; simp [intOf]; omega
  · have hi' : i = ps.length := by have := I.le; omega
    subst hi'
    refine iaLeave a1 w1 I.frm _ ps.length ((I.same.get 14 rfl).trans g14) I.g15 ?_
    rintro a' w' ⟨p1, p2, rfl⟩
    simp only [Exit.then]
    have s := I.same
    have hm := I.mac
    rw [List.take_length] at hm
    refine hQ _ _ ⟨p1, ?_, hm, I.tch⟩
    simp only [Same] at s p2 ⊢
    simp only [p2, s, and_self]
set_option maxHeartbeats 1000000 in
set_option maxRecDepth 100000 in
/-- impl.Mac. -/
theorem iMac (kt : List UInt32) (k s bl : Int) (key : By) (ps : List By) (kv pv : Value) (w : World) (hK : KIs w kt) (hv : Rd w kv key) (hl : key.length ≤ 1099511627776) (hp : PRd w pv ps) (hpl : ps.flatten.length ≤ 549755813888) :
    Calls Tryd.prog 10 #[.agg #[.int .i64 k, .int .i64 s, .int .i64 bl], kv, pv] w fun e w' => ∃ v', e = .returned v' ∧ Hid (Grew w w' (.slice none 0 0) v' (mac (kindOf kt k s bl) key ps.flatten)) := by
  obtain ⟨pq, pc, hpe, _, _, _⟩ := id hp
  have HV := Lib.hid hv
  have HL := Lib.hid hl
  have HK := Lib.hid hK
  have HP := Lib.hid hp
  have HPL := Lib.hid hpl
  clear hv hl hK hp hpl
  subst hpe
  go_enter Tryd.func10, Tryd.ntmps10
  refine wp_seq_k (fun K0 k0 => ?_)
  have J0 := Lib.hid k0
  clear k0
  go_wp2
  generalize hW1 : World.alloc _ _ = W1
  have R1 : Row W1 w.heap.size 23 [.int .i64 k, .int .i64 s, .int .i64 bl] := by rw [← hW1]; exact Row.new w 23 _
  have T1 : Hid (Tch [] w W1) := by rw [← hW1]; exact Tch.alloc _ _
  have HR1 := Lib.hid R1
  clear hW1 R1
  obtain ⟨c, hc⟩ : ∃ c, c = w.heap.size := ⟨_, rfl⟩
  rw [← hc] at HR1 ⊢
  clear hc
  refine J0.out _ _ (wp_seq_k (fun K1 k1 => ?_))
  have J1 := Lib.hid k1
  clear k1
  go_wp2_with (first | (refine wpList_load_row rfl 23 _ rfl c rfl 23 #[.int .i64 k, .int .i64 s, .int .i64 bl] (0, 0) _ HR1.out Tryd.underlying23 rfl (by kernel_rfl) ?_) | fail)
  refine (iMac0 kt k s bl key kv W1 (HK.out.tch T1.out (by simp)) (HV.out.tchNil T1.out) HL.out).mono ?_
  rintro e W2 ⟨F, rfl, h2⟩
  go_wp2
  refine J1.out _ _ (wp_seq_k (fun K2 k2 => ?_))
  have J2 := Lib.hid k2
  clear k2
  go_wp2
  have MA := h2.out.1
  have hnew : Hid (∀ b ∈ F.all, b = 0 ∨ w.heap.size ≤ b) := by
    intro b hb
    rcases h2.out.2.2.2 b hb with h | h
    · exact .inl h
    · exact .inr (Nat.le_trans T1.out.size h)
  have hF : w.heap.size ≤ F.bi ∧ w.heap.size ≤ F.si := by
    have k1 := MA.k1
    constructor
    · rcases hnew.out F.bi (by simp [HF.all]) with h | h
      · exact absurd h.symm k1.2.2.2.1
      · exact h
    · rcases hnew.out F.si (by simp [HF.all]) with h | h
      · exact absurd h.symm k1.2.2.2.2
      · exact h
  have hil : (ipad (kindOf kt k s bl) key).length ≤ 64 := by rw [ipad_length MA.ok]; exact MA.ok.block_le
  have hol : (opad (kindOf kt k s bl) key).length ≤ 64 := by rw [opad_length MA.ok]; exact MA.ok.block_le
  have T2 : Hid (Tch [] w W2) := T1.out.trans h2.out.2.2.1
  have hlen : (ipad (kindOf kt k s bl) key ++ ps.flatten).length ≤ 1099511627776 := by rw [List.length_append]; have := HPL.out; omega
  refine iaLoop _ W2 w ⟨rfl, rfl⟩ _ (kindOf kt k s bl) F _ _ _ ps _ MA T2.out HP.out hF hlen rfl rfl rfl rfl ?_
  rintro a3 W3 ⟨f3, s3, m3⟩
  have g7 : G a3 7 = .pointer (some ⟨F.m, 0, none⟩) := s3.get 7 rfl
  rw [lit26 a3 f3]
  simp only [g7]
  have HLEN := Lib.hid hlen
  have HOLN := Lib.hid hol
  clear f3 s3 g7 hlen hol hil hF MA
  go_wp2
  refine J2.out _ _ (wp_seq_k (fun K3 k3 => ?_))
  have J3 := Lib.hid k3
  clear k3
  go_wp2_with (fail)
  refine (macSum0 (kindOf kt k s bl) F _ _ _ [] (.slice none 0 0) W3 m3.out.1 h2.out.2.1 (Own.nil _) (by intro b hb; cases hb) HLEN.out (by have := HOLN.out; omega) (by simp)).mono ?_
  rintro e W4 ⟨v4, rfl, h4⟩
  go_wp2
  refine J3.out _ _ ?_
  go_wp2
  go_ret
  refine ⟨v4, rfl, h4.out.1, ?_, ?_⟩
  · refine m3.out.2.new h4.out.2.2.1 ?_
    have k1 := m3.out.1.k1
    intro i hi
    right
    have hi' : i = F.bo ∨ i = F.so := by simpa [Value.ownBlock] using hi
    rcases hi' with rfl | rfl
    · rcases hnew.out F.bo (by simp [HF.all]) with h | h
      · exact absurd h.symm k1.2.1
      · exact h
    · rcases hnew.out F.so (by simp [HF.all]) with h | h
      · exact absurd h.symm k1.2.2.1
      · exact h
  · rcases h4.out.2.2.2.2 with h | ⟨g, h, hg⟩
    · exact .inl h
    · exact .inr ⟨g, h, Nat.le_trans m3.out.2.size hg⟩
end Go.Proofs.YtgomodhhomekpaaDoor

/-
  laws.long.
-/
namespace Go.Proofs.YtgomodhhomekpaaDoor
open Go.RowKit Pu Ar
def LGP (a : Act) (w : World) (n i : Nat) (a' : Act) (w' : World) : Prop := Frm 19 a' ∧ Same [6, 7] a a' ∧ G a' 3 = .int .i64 n ∧ G a' 8 = .int .i64 ((i : Int) + 1) ∧ w' = w
def LGR (w : World) (a' : Act) (w' : World) : Prop := Frm 19 a' ∧ G a' 2 = .bool true ∧ w' = w
set_option maxRecDepth 100000 in
theorem lgRound (a : Act) (w : World) (h : Frm 19 a) (Q : Exit → Act → World → Prop) (b po i k cap n m : Nat) (p : Option Addr) (c : Nat)
    (hi : i < k) (hk : (k : Int) ≤ 9223372036854775807) (cu : w.cell? ⟨b, po + i, none⟩ = some (.slice p m c)) (hn : (n : Int) ≤ 1048576) (hm : (m : Int) ≤ 2147483647)
    (g3 : G a 3 = .int .i64 n) (g6 : G a 6 = .slice (some ⟨b, po, none⟩) k cap) (g7 : G a 7 = .int .i64 k) (g8 : G a 8 = .int .i64 i)
    (hQ : n + m ≤ 1048576 → ∀ a' w', LGP a w (n + m) i a' w' → Q .normal a' w') (hR : 1048576 < n + m → ∀ a' w', LGR w a' w' → Q .ret a' w') :
    (part (bodyOf Tryd.f5) [true, true, false, true, false, false]).wp Tryd.prog Q a w := by
  have hii : (i : Int) < k := by exact_mod_cast hi
  conv => arg 2; whnf
  rw [lit19 a h]
  simp only [g3, g6, g7, g8]
  have G6 := Lib.hid g6
  have G7 := Lib.hid g7
  clear h g3 g6 g7 g8
  by_cases ht : n + m ≤ 1048576
  · have hQ1 := hQ ht
    have htt : ¬ (1048576 : Int) < n + m := by omega
    clear hQ hR ht
    go_wp2
    have E6 := G6.out
    have E7 := G7.out
    exact ⟨⟨rfl, rfl⟩, ⟨E6.symm, E7.symm, trivial⟩, rfl, rfl, rfl⟩
  · have hQ1 := hR (by omega)
    have htt : (1048576 : Int) < n + m := by omega
    clear hQ hR ht
    go_wp2
    exact ⟨⟨rfl, rfl⟩, rfl, rfl⟩
def LGX (w : World) (a' : Act) (w' : World) : Prop := Frm 19 a' ∧ w' = w
set_option maxRecDepth 100000 in
theorem lgLeave (a : Act) (w : World) (h : Frm 19 a) (Q : Exit → Act → World → Prop) (k : Nat) (g7 : G a 7 = .int .i64 k) (g8 : G a 8 = .int .i64 k)
    (hQ : ∀ a' w', LGX w a' w' → Q (.exit 0) a' w') :
    (part (bodyOf Tryd.f5) [true, true, false, true, false, false]).wp Tryd.prog Q a w := by
  conv => arg 2; whnf
  rw [lit19 a h]
  simp only [g7, g8]
  clear h g7 g8
  go_wp2
  exact ⟨⟨rfl, rfl⟩, rfl⟩
theorem lgLoop_eq : part (bodyOf Tryd.f5) [true, true, false, true, false] = .loop (part (bodyOf Tryd.f5) [true, true, false, true, false, false]) := by kernel_rfl
structure LGI (a0 : Act) (w0 : World) (ps : List By) (i : Nat) (a : Act) (w : World) : Prop where
  frm : Frm 19 a
  same : Same [6, 7] a0 a
  le : i ≤ ps.length
  g8 : G a 8 = .int .i64 (i : Int)
  g3 : G a 3 = .int .i64 ((ps.take i).flatten.length : Nat)
  small : (ps.take i).flatten.length ≤ 1048576
  w : w = w0
theorem lgLoop (a : Act) (w : World) (h : Frm 19 a) (Q : Exit → Act → World → Prop) (ps : List By) (v : Value) (hP : PRd w v ps) (hs : ∀ p ∈ ps, p.length ≤ 2147483647)
    (g3 : G a 3 = .int .i64 0) (g6 : G a 6 = v) (g7 : G a 7 = .int .i64 ps.length) (g8 : G a 8 = .int .i64 0)
    (hQ : ps.flatten.length ≤ 1048576 → ∀ a' w', LGX w a' w' → Q (.exit 0) a' w') (hR : 1048576 < ps.flatten.length → ∀ a' w', LGR w a' w' → Q .ret a' w') :
    (part (bodyOf Tryd.f5) [true, true, false, true, false]).wp Tryd.prog Q a w := by
  rw [lgLoop_eq]
  obtain ⟨q, cap, hv, hcap, hmax, hrd⟩ := hP
  unfold maxLen at hmax
  refine wp_loop (fun a' w' => ∃ i, LGI a w ps i a' w') (fun a' _ => ps.length - (intOf (G a' 8)).toNat) ⟨0, h, by simp [Same], by omega, g8, by simpa using g3, by simp, rfl⟩ ?_
  rintro a1 w1 ⟨i, I⟩
  obtain rfl := I.w
  by_cases hi : i < ps.length
  · obtain ⟨pb, po, rfl, hcell⟩ : ∃ b o, q = some ⟨b, o, none⟩ ∧ ∀ i x, ps[i]? = some x → ∃ u, w1.cell? ⟨b, o + i, none⟩ = some u ∧ Rd w1 u x := by
      rcases hrd with h | h
      · rw [h] at hi; simp at hi
      · exact h
    obtain ⟨u, cu, p, c, rfl, _⟩ := hcell i _ (List.getElem?_eq_getElem hi)
    have ef : (ps.take (i + 1)).flatten.length = (ps.take i).flatten.length + ps[i].length := by
      rw [List.take_succ_eq_append_getElem hi, List.flatten_append, List.length_append]; simp
    have hm := hs ps[i] (List.getElem_mem hi)
    have hsm := I.small
    refine lgRound a1 w1 I.frm _ pb po i ps.length cap _ ps[i].length p c hi (by omega) cu (by omega) (by omega) I.g3 ((I.same.get 6 rfl).trans (g6.trans hv)) ((I.same.get 7 rfl).trans g7) I.g8 ?_ ?_
    · rintro hle a' w' ⟨p1, p2, p3, p4, rfl⟩
      simp only [Exit.then]
      refine ⟨⟨i + 1, p1, ?_, by omega, p4, by rw [p3, ef], by rw [ef]; exact hle, rfl⟩, ?_⟩
      · have s := I.same
        simp only [Same] at s p2 ⊢
        simp only [p2, s, and_self]
      · rw [p4, I.g8]; simp [intOf]; omega
    · rintro hgt a' w' hr
      simp only [Exit.then]
      refine hR ?_ _ _ hr
      have := flatten_take_le ps (i + 1)
      omega
  · have hi' : i = ps.length := by have := I.le; omega
    subst hi'
    refine lgLeave a1 w1 I.frm _ ps.length ((I.same.get 7 rfl).trans g7) I.g8 ?_
    rintro a' w' hx
    simp only [Exit.then]
    refine hQ ?_ _ _ hx
    have := I.small
    rwa [List.take_length] at this
set_option maxRecDepth 100000 in
/-- laws.long. -/
theorem lLong (ps : List By) (v : Value) (w : World) (hP : PRd w v ps) (hs : ∀ p ∈ ps, p.length ≤ 2147483647) :
    Calls Tryd.prog 5 #[v] w fun e w' => e = .returned (.bool (decide (1048576 < ps.flatten.length))) ∧ w = w' := by
  obtain ⟨q, cap, rfl, _⟩ := id hP
  have HP := Lib.hid hP
  have HS := Lib.hid hs
  clear hP hs
  go_enter Tryd.func5, Tryd.ntmps5
  go_wp2
  refine lgLoop _ _ ⟨rfl, rfl⟩ _ ps _ HP.out HS.out rfl rfl rfl rfl ?_ ?_
  · rintro hle a' w' ⟨f, rfl⟩
    have hd : Hid (decide (1048576 < ps.flatten.length) = false) := decide_eq_false (by omega)
    rw [lit19 a' f]
    clear f hle
    go_wp2
    go_ret
    refine ⟨?_, rfl⟩
    rw [hd.out]; rfl
  · rintro hgt a' w' ⟨f, g2, rfl⟩
    have hd : Hid (decide (1048576 < ps.flatten.length) = true) := decide_eq_true hgt
    rw [lit19 a' f]
    simp only [g2]
    clear f g2 hgt
    go_wp2
    go_ret
    refine ⟨?_, rfl⟩
    rw [hd.out]; rfl
end Go.Proofs.YtgomodhhomekpaaDoor

/-
  laws.same: two slices of bytes, held against each other as texts.
-/
namespace Go.Proofs.YtgomodhhomekpaaDoor
open Go.RowKit Pu Ar
/-- The text of the bytes. -/
def strOf (l : By) : ByteArray := (l.map (fun x => ib x)).foldl (fun r n => r.push (UInt8.ofNat n.toNat)) ByteArray.empty
theorem strOf_list (l : By) : (strOf l).data.toList = l := by
  have h : ∀ (l : By) (r : ByteArray), ((l.map (fun x => ib x)).foldl (fun r n => r.push (UInt8.ofNat n.toNat)) r).data.toList = r.data.toList ++ l := by
    intro l
    induction l with
    | nil => intro r; simp
    | cons x l ih =>
      intro r
      have e : UInt8.ofNat (ib x).toNat = x := by simp [ib]
      simp only [List.map_cons, List.foldl_cons]
      rw [ih]
      simp [ByteArray.push, e]
  have := h l ByteArray.empty
  simpa [strOf] using this
theorem run_string_of {w : World} {v : Value} {l : By} (h : Rd w v l) : (convert 24 9 v).run Tryd.prog w = .ok (.string (strOf l)) w := by
  obtain ⟨p, cap, rfl, hc, hm, hr⟩ := h
  rw [run_convert_bytes_string w 24 9 5 p l.length cap Tryd.underlying24 Tryd.underlying5 Tryd.underlying9]
  rcases hr with rfl | ⟨b, o, rfl, hr⟩
  · cases p with
    | none => simp [Conv.bytesToString, strOf, Sem.run_pure]
    | some a => exact run_bytesToString w a 0 cap [] (by simp [loadCells, loadCellsFrom, Sem.run_pure])
  · refine run_bytesToString w _ l.length cap (l.map (fun x => ib x)) ?_
    have := run_loadCells_list (P := Tryd.prog) w ⟨b, o, none⟩ (l.map vb) (fun j u hu => by
      rw [List.getElem?_map] at hu
      cases hx : l[j]? with
      | none => simp [hx] at hu
      | some x => simp [hx] at hu; subst hu; rw [add_lit']; exact hr j x hx)
    rw [List.length_map] at this
    rw [this, List.map_map]; rfl
set_option maxRecDepth 100000 in
/-- laws.same. -/
theorem lSame (u v : Value) (x y : By) (w : World) (hu : Rd w u x) (hv : Rd w v y) :
    Calls Tryd.prog 6 #[u, v] w fun e w' => e = .returned (.bool (decide (x = y))) ∧ w = w' := by
  have c1 := run_string_of hu
  have c2 := run_string_of hv
  clear hu hv
  go_enter Tryd.func6, Tryd.ntmps6
  go_wp2
  go_ret
  refine ⟨?_, rfl⟩
  have e : ((strOf x).toList == (strOf y).toList) = decide (x = y) := by
    rw [ByteArray.toList_eq, ByteArray.toList_eq, strOf_list, strOf_list]
    by_cases h : x = y
    · subst h; simp
    · rw [decide_eq_false h]; simpa using h
  rw [← e]; rfl
end Go.Proofs.YtgomodhhomekpaaDoor

/-
  What the rows' frames want: the arguments opened, the table out of the world's shape, the frame about a walk.
-/
namespace Go.Proofs.YtgomodhhomekpaaDoor
open Go.ChangeShapes Go.WideShapes Go.ChangeAt Go.RowKit Go.Joins Pu Ar
open Go.ChangeMaps (open_string shut_string)
set_option maxRecDepth 100000
theorem rOwn : ownKnob Tryd.prog.godebug = none := by kernel_rfl
theorem rLaid : laidOutB Tryd.prog = true := by kernel_rfl
theorem cHash : Tryd.prog.cellsOf 23 = 3 := by kernel_rfl
theorem cByte : Tryd.prog.cellsOf 5 = 1 := by kernel_rfl
/-- The table holds 64 words, whatever they are. -/
theorem kis_of_shape {W : World} (h : W.ShapedOpen Tryd.prog) : ∃ kt, KIs W kt := by
  have hz : (((begin Tryd.prog (fun _ _ => 0) default).world.heap[0]?).bind Obj.row?).map (fun x => (x.1.size, x.2)) = some (64, 71) := by kernel_rfl
  obtain ⟨⟨zero, t⟩, h0, h1⟩ := Option.map_eq_some_iff.1 hz
  simp only [Prod.mk.injEq] at h1
  obtain ⟨h1, rfl⟩ := h1
  obtain ⟨cs, hh, hs, hr⟩ := h.1 0 zero 71 (of_decide_eq_true (by kernel_rfl)) h0
  obtain ⟨ts, hts, _, hall⟩ := hr (by kernel_rfl)
  have e : Tryd.prog.cellTypes Tryd.prog.depth 71 = some (List.replicate 64 46) := by kernel_rfl
  rw [e] at hts
  obtain rfl := Option.some.inj hts
  have each : ∀ i (hi : i < cs.size), ∃ n : Nat, cs[i] = .int .u32 (n : Int) ∧ n < 4294967296 := by
    intro i hi
    obtain ⟨u, hu, hok⟩ := hall i cs[i] (by simp [hi])
    rw [List.getElem?_replicate] at hu
    split at hu
    · obtain rfl := Option.some.inj hu
      unfold Cell.ok at hok
      rw [Tryd.underlying46] at hok
      cases hv : cs[i] with
      | int k n =>
        rw [hv] at hok
        obtain ⟨rfl, hk⟩ := hok
        simp [IntKind.has, IntKind.signed, IntKind.bits, IntKind.min, IntKind.max] at hk
        exact ⟨n.toNat, by rw [Int.toNat_of_nonneg (by omega)], by omega⟩
      | _ => rw [hv] at hok; simp at hok
    · cases hu
  refine ⟨cs.toList.map (fun v => match v with | .int _ n => UInt32.ofNat n.toNat | _ => 0), by simp [hs, h1], ?_⟩
  unfold Row
  rw [hh]
  congr 2
  apply Array.ext
  · simp
  · intro i h2 h3
    obtain ⟨n, hn, hlt⟩ := each i h2
    simp only [List.map_map, List.getElem_toArray, List.getElem_map, Array.getElem_toList, Function.comp]
    rw [hn]
    simp [vw, iw, Nat.mod_eq_of_lt hlt]
variable {H : Type} {enc : TypeId × Value → H}
/-- A slice of bytes. -/
theorem open_by {W : World} {b0 : Nat} {v : Value} {d : DataW H} {p : List MemPlace} (hval : Value.okWide Tryd.prog W .any b0 24 v) (h : DataW.Trod enc Tryd.prog W 0 (fun _ => true) true 24 v d p) : ∃ l, Rd W v l := by
  obtain ⟨a0, len0, cap0, rfl⟩ := okWide_slice Tryd.underlying24 hval
  obtain ⟨fuel, hf⟩ := h
  rcases open_ints Tryd.underlying24 Tryd.underlying5 cByte hf with ⟨hcs, _⟩ | ⟨x, l, c, zs, hcs, _, hl, hm, hz, _, hcell, hwz⟩
  · simp [Value.cells] at hcs
    obtain ⟨rfl, rfl, rfl⟩ := hcs
    exact ⟨[], Rd.nil W⟩
  · simp [Value.cells] at hcs
    obtain ⟨rfl, rfl, rfl⟩ := hcs
    have hzl : zs.length = cap0 := by simpa using hz
    have hby : ∀ i, i < zs.length → (.int .u8 (zs.getD i 0) : Value) = vb (UInt8.ofNat (zs.getD i 0).toNat) := by
      intro i hi
      have hw := hwz (zs.getD i 0) (by rw [List.getD_eq_getElem?_getD, List.getElem?_eq_getElem hi]; exact List.getElem_mem hi)
      simp [Lit.wf, IntKind.min, IntKind.max, IntKind.signed, IntKind.bits] at hw
      have h1 : (zs.getD i 0).toNat % 256 = (zs.getD i 0).toNat := Nat.mod_eq_of_lt (by simp only [List.getD_eq_getElem?_getD] at hw ⊢; omega)
      have h2 : ((zs.getD i 0).toNat : Int) = zs.getD i 0 := Int.toNat_of_nonneg (by simp only [List.getD_eq_getElem?_getD] at hw ⊢; omega)
      unfold vb ib
      rw [UInt8.toNat_ofNat', h1, h2]
    refine ⟨(zs.take len0).map (fun z => UInt8.ofNat z.toNat), some x, cap0, by simp [hzl, Nat.min_eq_left hl], by simp [hzl]; omega, hm, ?_⟩
    by_cases h0 : len0 = 0
    · left; simp [h0]
    · right
      obtain ⟨b, off, spot⟩ := x
      have hc := hcell 0 (by omega)
      have hspot : spot = none := by simpa [Addr.add] using World.cell?_spot hc
      subst hspot
      refine ⟨b, off, rfl, fun i y hy => ?_⟩
      rw [List.getElem?_map, List.getElem?_take] at hy
      split at hy
      · have hi : i < zs.length := by omega
        have := hcell i hi
        rw [hby i hi, add_lit'] at this
        rw [List.getElem?_eq_getElem hi] at hy
        simp only [Option.map_some, Option.some.injEq] at hy
        rw [this, ← hy]
        simp [List.getD_eq_getElem?_getD, List.getElem?_eq_getElem hi]
      · cases hy
/-- A hash's name. -/
theorem open_hash {W : World} {b0 : Nat} {v : Value} {d : DataW H} {p : List MemPlace} (hval : Value.okWide Tryd.prog W .any b0 23 v) (h : DataW.Trod enc Tryd.prog W 0 (fun _ => true) true 23 v d p) : ∃ k s bl : Int, v = .agg #[.int .i64 k, .int .i64 s, .int .i64 bl] := by
  obtain ⟨c0, c1, c2, y0, y1, y2, m, rfl, rfl, rfl, h0, h1, h2⟩ := open_agg3 Tryd.underlying23 (by kernel_rfl) cHash hval h
  obtain ⟨k, e0, -, -⟩ := DataW.trod_int Tryd.underlying3 h0
  obtain ⟨s, e1, -, -⟩ := DataW.trod_int Tryd.underlying3 h1
  obtain ⟨bl, e2, -, -⟩ := DataW.trod_int Tryd.underlying3 h2
  simp at e0 e1 e2
  exact ⟨k, s, bl, by rw [e0, e1, e2]⟩
theorem open_u8 {W : World} {b0 : Nat} {v : Value} {d : DataW H} {p : List MemPlace} (hval : Value.okWide Tryd.prog W .any b0 5 v) (h : DataW.Trod enc Tryd.prog W 0 (fun _ => true) true 5 v d p) : ∃ n : UInt8, v = vb n := by
  obtain ⟨n, rfl, -, -, hw⟩ := open_int Tryd.underlying5 hval h
  simp [Lit.wf, IntKind.min, IntKind.max, IntKind.signed, IntKind.bits] at hw
  refine ⟨UInt8.ofNat n.toNat, ?_⟩
  unfold vb ib
  rw [UInt8.toNat_ofNat', Nat.mod_eq_of_lt (by omega), Int.toNat_of_nonneg (by omega)]
theorem open_str {W : World} {b0 : Nat} {v : Value} {d : DataW H} {p : List MemPlace} (hval : Value.okWide Tryd.prog W .any b0 9 v) (h : DataW.Trod enc Tryd.prog W 0 (fun _ => true) true 9 v d p) : ∃ s : ByteArray, v = .string s ∧ s.size ≤ maxLen := by
  obtain ⟨s, rfl, -, -, hs⟩ := open_string Tryd.underlying9 hval h
  exact ⟨s, rfl, hs⟩
/-- What was read before the call reads the same behind it. -/
theorem again {t : TypeId} {W W' : World} {v : Value} {d : DataW H} {p : List MemPlace} (hr : Tryd.prog.readableRec t = true) (ht : t < Tryd.prog.types.size) (h : DataW.Trod enc Tryd.prog W 0 (fun _ => true) true t v d p) (hb : Below W.heap.size W W') :
    DataW.Trod enc Tryd.prog W' 0 (fun b => decide (b < W.heap.size)) true t v d p := Below.trod rLaid hr ht h hb (by obtain ⟨m, hm⟩ := h; exact DataW.trod_lt m _ _ _ hm)
/-- The plain wrap, with a condition beside and the world's shape kept. -/
theorem change_and_shaped {a : Assume} {C : Checked} {os : Os} {f : FuncId} {fn : Func} {s : ChangeSpec} {conds : List PathCond} {apart fresh handsOn again : Bool} {X : World → Array Value → Prop}
    (hX : ∀ (w w' : World) (args : Array Value), w.heap = w'.heap → X w args → X w' args)
    (own : ownKnob C.prog.godebug = none) (started : os.Started) (noInit : C.prog.inits.idxOf? f = none) (hfn : C.prog.funcs[f]? = some fn)
    (witness : ∃ (w : World) (tape : Tape) (i : Input), w.os = os ∧ (w.forCall tape i).Shaped C.prog ∧ i.vars = [] ∧ Input.okWide C.prog (w.forCall tape i) .any w.heap.size f i ∧
      ((s.pre enc C.prog fn conds apart (w.forCall tape i).memory i.args ∧ X (w.forCall tape i).memory i.args) ∧ sizedMet enc C.prog fn (OpenSpec.ofChange s) apart (w.forCall tape i).memory i.args) ∧ a.holds C.prog (lone (Frame.enter C.prog f i.args .normal) [] (w.forCall tape i)))
    (contract : ∀ (W : World) (base : Nat) (args : Array Value) (ds gs : List (DataW H)) (before : List MemPlace),
      (∀ (j : Nat) t v, fn.params[j]? = some t → args[j]? = some v → Value.okWide C.prog W .any base t v) →
      DataW.Whole enc C.prog fn.params.toList s.vars apart W args.toList ds gs before → X W args → W.ShapedOpen C.prog →
      Calls C.prog f args W fun e W' => ∃ v, e = .returned v ∧ s.post enc C.prog fn apart fresh handsOn again W args v W') :
    ReturnsInHanded a C os f .any (fun w args => (s.pre enc C.prog fn conds apart w args ∧ X w args) ∧ sizedMet enc C.prog fn (OpenSpec.ofChange s) apart w args) (s.post enc C.prog fn apart fresh handsOn again) := by
  refine returnsInHanded_of_calls own started noInit witness ?_
  intro w tape i _ hsh _ hok hpre _
  obtain ⟨_, _, _, fn', hfn', _, _, _, _, hval⟩ := hok
  have e : fn' = fn := Option.some.inj (hfn'.symm.trans hfn)
  subst e
  obtain ⟨⟨⟨ds, gs, before, hw, _⟩, hx⟩, _⟩ := hpre
  refine (contract (w.forCall tape i) w.heap.size i.args ds gs before hval (DataW.Whole.of_heap (w' := w.forCall tape i) (by rfl) hw) (hX _ _ _ (by rfl) hx) hsh).mono fun e W' ⟨v, he, hp⟩ => ?_
  subst he
  exact ChangeSpec.post_blind hp
end Go.Proofs.YtgomodhhomekpaaDoor
