/-
  hmac.New, whole.
-/
import Derived.Test.YtgomodhhomekpaaHp
import Derived.Deep.RegionHeld3
namespace Go.Proofs.Ytgomodhhomekpaa
open Go.RowKit Pu Ar
/-- What the making of a hash hands back. -/
def NewH (hk : Pu.HK) (w : World) (e : Ending) (w' : World) : Prop :=
  ∃ b sb, e = .returned (.pointer (some ⟨b, 0, none⟩)) ∧ Hid (HIs w' hk b sb [] ∧ Tch [] w w' ∧ w.heap.size ≤ b ∧ w.heap.size ≤ sb)
theorem newD (kt : List UInt32) (w : World) (hK : KIs w kt) : Calls Try.prog 49 #[] w (NewH (.sha kt) w) := by
  refine (digNew kt w).mono ?_
  rintro e w' ⟨rfl, h⟩
  exact ⟨_, _, rfl, ⟨hK.tch h.out.2.1 (by simp), h.out.1, rfl⟩, h.out.2.1, Nat.le_refl _, Nat.le_refl _⟩
theorem newO (k s bl : Int) (w : World) : Calls Try.prog 51 #[.agg #[.int .i64 k, .int .i64 s, .int .i64 bl]] w (NewH (.own (szOf s bl) (blOf s bl)) w) := by
  refine (ownFresh k s bl w).mono ?_
  rintro e w' ⟨b, sb, rfl, h⟩
  exact ⟨b, sb, rfl, h.out.1, h.out.2⟩
theorem rowD {w : World} {kt : List UInt32} {b sb : Nat} {l : By} (h : HIs w (.sha kt) b sb l) : ∃ x, Row w b 104 x := by
  obtain ⟨_, ⟨_, x, hd, _⟩, _⟩ := h
  exact ⟨_, hd.row⟩
theorem rowO {w : World} {s bl b sb : Nat} {l : By} (h : HIs w (.own s bl) b sb l) : ∃ x, Row w b 106 x := ⟨_, OwnAt.row h⟩
theorem own_ok (s bl : Int) : (Pu.HK.own (szOf s bl) (blOf s bl)).ok := by
  have h := kindOf_ok [] 0 s bl
  rwa [bad_kind [] 0 s bl (by omega)] at h
set_option maxHeartbeats 2000000 in
set_option maxRecDepth 100000 in
theorem hmNewD (kt : List UInt32) (key : By) (v : Value) (w : World) (hK : KIs w kt) (hr : Rd w v key) (hnm : Nm v) (hlt : ∀ b, v.ownBlock = some b → b < w.heap.size) (hkl : key.length ≤ 1099511627776) :
    Calls Try.prog 64 #[(.func (.func 49) #[] #[]), v] w (HNE w (Pu.HK.sha kt) key) := by
  obtain ⟨vp, vc, rfl, _, _, _⟩ := id hr
  have HK := Lib.hid hK
  have HR := Lib.hid hr
  have HNM := Lib.hid hnm
  have HLT := Lib.hid hlt
  have HKL := Lib.hid hkl
  clear hK hr hnm hlt hkl
  go_enter Try.func64, Try.ntmps64
  refine wp_seq_k (fun K0 k0 => ?_)
  have J0 := Lib.hid k0
  clear k0
  go_wp2
  refine J0.out _ _ (wp_seq_k (fun K1 k1 => ?_))
  have J1 := Lib.hid k1
  clear k1
  go_wp2
  generalize hW2 : World.alloc _ _ = W2
  have RM : Hid (Row W2 w.heap.size 95 [.slice none 0 0, .slice none 0 0, .nilIface, .nilIface, .bool false, .bool false, .int .i64 key.length]) := by rw [← hW2]; exact (Row.new w 95 _).alloc _
  have RH : Hid (Row W2 (w.heap.size + 1) 65 [.pointer (some ⟨w.heap.size, 0, none⟩)]) := by
    rw [← hW2]
    have := Row.new (w.alloc (.cells #[.slice none 0 0, .slice none 0 0, .nilIface, .nilIface, .bool false, .bool false, .int .i64 key.length] 95)) 65 [.pointer (some ⟨w.heap.size, 0, none⟩)]
    rwa [World.size_alloc] at this
  have T2 : Hid (Tch [] w W2) := by rw [← hW2]; exact (Tch.alloc _ _).trans (Tch.alloc _ _)
  clear hW2
  obtain ⟨m, hm⟩ : ∃ m, m = w.heap.size := ⟨_, rfl⟩
  obtain ⟨hv, hhv⟩ : ∃ hv, hv = w.heap.size + 1 := ⟨_, rfl⟩
  rw [← hhv] at RH ⊢
  rw [← hm] at RM RH ⊢
  have hmh : m < hv := by omega
  have HMH := Lib.hid hmh
  have HMW := Lib.hid hm
  clear hm hhv
  have c0 : W2.cell? ⟨hv, 0, none⟩ = some (.pointer (some ⟨m, 0, none⟩)) := by rw [RH.out.cell]; rfl
  refine J1.out _ _ (wp_seq_k (fun K2 k2 => ?_))
  have J2 := Lib.hid k2
  clear k2
  go_region_held3 (fun w' => w'.cell? ⟨hv, 0, none⟩ = some (.pointer (some ⟨m, 0, none⟩))) (first | exact c0 | assumption | (rw [World.cell?_setCell_other _ _ _ _ (by intro h; simp only [Addr.mk.injEq] at h; omega)]; assumption)) (first | (go_at_call 49; refine (newD kt _ (HK.out.tch (T2.out.trans (Tch.drewN W2 1)) (by simp))).mono ?_; rintro e w3 ⟨bo, so, rfl, h3⟩; have c0' : w3.cell? ⟨hv, 0, none⟩ = some (.pointer (some ⟨m, 0, none⟩)) := h3.out.2.1.cell c0 (by simp); have c2' : w3.cell? ⟨m, 2, none⟩ = some .nilIface := by { rw [(RM.out.tch ((Tch.drewN (S := []) W2 1).trans h3.out.2.1) (by simp)).cell]; rfl }; have f2' : w3.frozen? ⟨m, 2, none⟩ = false := (RM.out.tch ((Tch.drewN (S := []) W2 1).trans h3.out.2.1) (by simp)).free 2))
  have hKm : 0 < m := by rw [HMW.out]; exact HK.out.2.lt
  have HKM := Lib.hid hKm
  have B3 : Hid (hv < bo ∧ hv < so) := by
    have h1 := RH.out.lt
    have h2 : W2.heap.size ≤ bo := h3.out.2.2.1
    have h4 : W2.heap.size ≤ so := h3.out.2.2.2
    exact ⟨by omega, by omega⟩
  generalize hW4 : World.setCell _ _ _ = W4
  have k4 : Tch [m] w3 W4 := by rw [← hW4]; exact Tch.setCell _ _ _ (by simp)
  have RM4 : Hid (Row W4 m 95 [.slice none 0 0, .slice none 0 0, .iface 74 (.pointer (some ⟨bo, 0, none⟩)), .nilIface, .bool false, .bool false, .int .i64 key.length]) := by
    rw [← hW4]; exact (RM.out.tch ((Tch.drewN (S := []) W2 1).trans h3.out.2.1) (by simp)).set 2 _
  have RH4 : Hid (Row W4 hv 65 [.pointer (some ⟨m, 0, none⟩)]) := (RH.out.tch ((Tch.drewN (S := []) W2 1).trans h3.out.2.1) (by simp)).tch k4 (by simp only [List.mem_singleton]; omega)
  have T4 : Hid (Tch [] w W4) := (T2.out.trans ((Tch.drewN (S := []) W2 1).trans h3.out.2.1)).new k4 (by intro i hi; right; rw [List.mem_singleton.1 hi, HMW.out]; exact Nat.le_refl _)
  have HO4 : Hid (HIs W4 (Pu.HK.sha kt) bo so []) := by
    have := B3.out
    exact h3.out.1.tch k4 (by simp only [List.mem_singleton]; omega) (by simp only [List.mem_singleton]; omega) (by simp only [List.mem_singleton]; omega)
  clear hW4 k4 h3 c0 c0' c2' f2' RM RH T2 hKm
  have c0 : W4.cell? ⟨hv, 0, none⟩ = some (.pointer (some ⟨m, 0, none⟩)) := by rw [RH4.out.cell]; rfl
  go_wp2
  refine J2.out _ _ (wp_seq_k (fun K3 k3 => ?_))
  have J3 := Lib.hid k3
  clear k3
  go_region_held3 (fun w' => w'.cell? ⟨hv, 0, none⟩ = some (.pointer (some ⟨m, 0, none⟩))) (first | exact c0 | assumption | (rw [World.cell?_setCell_other _ _ _ _ (by intro h; simp only [Addr.mk.injEq] at h; omega)]; assumption)) (first | (go_at_call 49; refine (newD kt _ (HK.out.tch (T4.out.trans (Tch.drewN W4 1)) (by simp))).mono ?_; rintro e w5 ⟨bi, si, rfl, h5⟩; have c0' : w5.cell? ⟨hv, 0, none⟩ = some (.pointer (some ⟨m, 0, none⟩)) := h5.out.2.1.cell c0 (by simp); have c3' : w5.cell? ⟨m, 3, none⟩ = some .nilIface := by { rw [(RM4.out.tch ((Tch.drewN (S := []) W4 1).trans h5.out.2.1) (by simp)).cell]; rfl }; have f3' : w5.frozen? ⟨m, 3, none⟩ = false := (RM4.out.tch ((Tch.drewN (S := []) W4 1).trans h5.out.2.1) (by simp)).free 3))
  have B5 : Hid (bo < bi ∧ bo < si ∧ so < bi ∧ so < si) := by
    have h1 := HO4.out.lt
    have h2 : W4.heap.size ≤ bi := h5.out.2.2.1
    have h4 : W4.heap.size ≤ si := h5.out.2.2.2
    exact ⟨by omega, by omega, by omega, by omega⟩
  generalize hW6 : World.setCell _ _ _ = W6
  have k6 : Tch [m] w5 W6 := by rw [← hW6]; exact Tch.setCell _ _ _ (by simp)
  have RM6 : Hid (Row W6 m 95 [.slice none 0 0, .slice none 0 0, .iface 74 (.pointer (some ⟨bo, 0, none⟩)), .iface 74 (.pointer (some ⟨bi, 0, none⟩)), .bool false, .bool false, .int .i64 key.length]) := by
    rw [← hW6]; exact (RM4.out.tch ((Tch.drewN (S := []) W4 1).trans h5.out.2.1) (by simp)).set 3 _
  have RH6 : Hid (Row W6 hv 65 [.pointer (some ⟨m, 0, none⟩)]) := (RH4.out.tch ((Tch.drewN (S := []) W4 1).trans h5.out.2.1) (by simp)).tch k6 (by simp only [List.mem_singleton]; omega)
  have T6 : Hid (Tch [] w W6) := (T4.out.trans ((Tch.drewN (S := []) W4 1).trans h5.out.2.1)).new k6 (by intro i hi; right; rw [List.mem_singleton.1 hi, HMW.out]; exact Nat.le_refl _)
  have HO6 : Hid (HIs W6 (Pu.HK.sha kt) bo so []) := by
    have := B3.out; have := HKM.out
    exact (HO4.out.tch ((Tch.drewN (S := []) W4 1).trans h5.out.2.1) (by simp) (by simp) (by simp)).tch k6 (by simp only [List.mem_singleton]; omega) (by simp only [List.mem_singleton]; omega) (by simp only [List.mem_singleton]; omega)
  have HI6 : Hid (HIs W6 (Pu.HK.sha kt) bi si []) := by
    have := B3.out; have := B5.out; have := HKM.out
    exact h5.out.1.tch k6 (by simp only [List.mem_singleton]; omega) (by simp only [List.mem_singleton]; omega) (by simp only [List.mem_singleton]; omega)
  clear hW6 k6 h5 c0 c0' c3' f3' RM4 RH4 T4 HO4
  go_wp2
  refine J3.out _ _ (wp_seq_k (fun K4 k4 => ?_))
  have J4 := Lib.hid k4
  clear k4
  go_wp2
  have HO6s : Hid (bo < W6.heap.size ∧ so < W6.heap.size) := HO6.out.lt
  have HI6s : Hid (bi < W6.heap.size ∧ si < W6.heap.size) := HI6.out.lt
  generalize hW7 : World.alloc _ _ = W7
  have k7 : Tch [] W6 W7 := by rw [← hW7]; exact Tch.alloc _ _
  have U7 : Hid (Row W7 W6.heap.size 4 [.bool true]) := by rw [← hW7]; exact Row.new W6 4 _
  have RM7 : Hid (Row W7 m 95 [.slice none 0 0, .slice none 0 0, .iface 74 (.pointer (some ⟨bo, 0, none⟩)), .iface 74 (.pointer (some ⟨bi, 0, none⟩)), .bool false, .bool false, .int .i64 key.length]) := RM6.out.tch k7 (by simp)
  have RH7 : Hid (Row W7 hv 65 [.pointer (some ⟨m, 0, none⟩)]) := RH6.out.tch k7 (by simp)
  have T7 : Hid (Tch [] w W7) := T6.out.trans k7
  have HO7 : Hid (HIs W7 (Pu.HK.sha kt) bo so []) := HO6.out.tch k7 (by simp) (by simp) (by simp)
  have HI7 : Hid (HIs W7 (Pu.HK.sha kt) bi si []) := HI6.out.tch k7 (by simp) (by simp) (by simp)
  clear hW7 k7 RM6 RH6 T6 HO6 HI6
  have c0 : W7.cell? ⟨hv, 0, none⟩ = some (.pointer (some ⟨m, 0, none⟩)) := by rw [RH7.out.cell]; rfl
  have c2 : W7.cell? ⟨m, 2, none⟩ = some (.iface 74 (.pointer (some ⟨bo, 0, none⟩))) := by rw [RM7.out.cell]; rfl
  have c3 : W7.cell? ⟨m, 3, none⟩ = some (.iface 74 (.pointer (some ⟨bi, 0, none⟩))) := by rw [RM7.out.cell]; rfl
  obtain ⟨x, hx⟩ := rowD HO7.out
  obtain ⟨y, hy⟩ := rowD HI7.out
  have HCL := Lib.hid (closD W7 hv W6.heap.size m bo bi x y c0 c2 c3 hx hy (by have := B5.out; omega))
  have hmf : ∀ (fn : Fn) (first cap : Array Value) (w : World), (Instr.makeFunc fn first cap).run Try.prog w = .ok (.func fn first cap) w := fun _ _ _ _ => rfl
  have hnot : (Op.unary .not (.bool true)) = pure (.bool false) := rfl
  clear hx hy x y c0 c2 c3
  refine J4.out _ _ (wp_seq_k (fun K5 k5 => ?_))
  have J5 := Lib.hid k5
  clear k5
  go_wp2_with (fail)
  refine HCL.out.mono ?_
  rintro e W8 ⟨rfl, h8⟩
  have k8 : Tch [] W7 W8 := h8.out
  have U8 : Hid (Row W8 W6.heap.size 4 [.bool true]) := U7.out.tch k8 (by simp)
  have RM8 : Hid (Row W8 m 95 [.slice none 0 0, .slice none 0 0, .iface 74 (.pointer (some ⟨bo, 0, none⟩)), .iface 74 (.pointer (some ⟨bi, 0, none⟩)), .bool false, .bool false, .int .i64 key.length]) := RM7.out.tch k8 (by simp)
  have RH8 : Hid (Row W8 hv 65 [.pointer (some ⟨m, 0, none⟩)]) := RH7.out.tch k8 (by simp)
  have T8 : Hid (Tch [] w W8) := T7.out.trans k8
  have HO8 : Hid (HIs W8 (Pu.HK.sha kt) bo so []) := HO7.out.tch k8 (by simp) (by simp) (by simp)
  have HI8 : Hid (HIs W8 (Pu.HK.sha kt) bi si []) := HI7.out.tch k8 (by simp) (by simp) (by simp)
  clear k8 h8 HCL U7 RM7 RH7 T7 HO7 HI7
  have c0 : W8.cell? ⟨hv, 0, none⟩ = some (.pointer (some ⟨m, 0, none⟩)) := by rw [RH8.out.cell]; rfl
  have c3 : W8.cell? ⟨m, 3, none⟩ = some (.iface 74 (.pointer (some ⟨bi, 0, none⟩))) := by rw [RM8.out.cell]; rfl
  have cu : W8.cell? ⟨W6.heap.size, 0, none⟩ = some (.bool true) := by rw [U8.out.cell]; rfl
  go_wp2
  refine J5.out _ _ (wp_seq_k (fun K6 k6 => ?_))
  have J6 := Lib.hid k6
  clear k6
  go_wp2
  refine J6.out _ _ (wp_seq_k (fun K7 k7 => ?_))
  have J7 := Lib.hid k7
  clear k7
  have e1 := mBlockSize (Pu.HK.sha kt)
  have e2 := cBlockSize (Pu.HK.sha kt)
  go_wp2_with (fail)
  refine (hBlock (Pu.HK.sha kt) bi si [] W8 HI8.out).mono ?_
  rintro e W9 ⟨rfl, rfl⟩
  obtain ⟨N, hN⟩ : ∃ N, N = Pu.HK.block (Pu.HK.sha kt) := ⟨_, rfl⟩
  have HN := Lib.hid hN
  have hN64 : N ≤ 64 := by rw [hN]; exact Pu.HK.ok.block_le (show Pu.HK.ok (.sha kt) from trivial)
  rw [← hN]
  clear hN c3 cu e1 e2 hmf hnot U8
  go_wp2
  refine J7.out _ _ (wp_seq_k (fun K8 k8 => ?_))
  have J8 := Lib.hid k8
  clear k8
  obtain ⟨WA, hWA⟩ : ∃ WA, WA = W8.drew.alloc (.cells (List.replicate N (Value.int .u8 0)).toArray 5) := ⟨_, rfl⟩
  have hmk : (Instr.makeSlice 24 (.int .i64 (N : Int)) (.int .i64 (N : Int))).run Try.prog W8.drew = .ok (.slice (some ⟨W8.heap.size, 0, none⟩) N N) WA := by
    rw [hWA]; exact run_make_by N N (Nat.le_refl _) (by omega) W8.drew
  have kA : Tch [] W8 WA := by rw [hWA]; exact (Tch.drewN (S := []) W8 1).trans (Tch.alloc _ _)
  have RMA : Hid (Row WA m 95 [.slice none 0 0, .slice none 0 0, .iface 74 (.pointer (some ⟨bo, 0, none⟩)), .iface 74 (.pointer (some ⟨bi, 0, none⟩)), .bool false, .bool false, .int .i64 key.length]) := RM8.out.tch kA (by simp)
  have RHA : Hid (Row WA hv 65 [.pointer (some ⟨m, 0, none⟩)]) := RH8.out.tch kA (by simp)
  have RIA : Hid (Row WA W8.heap.size 5 (List.replicate N (Value.int .u8 0))) := by rw [hWA]; exact Row.new W8.drew 5 _
  have TA : Hid (Tch [] w WA) := T8.out.trans kA
  have HOA : Hid (HIs WA (Pu.HK.sha kt) bo so []) := HO8.out.tch kA (by simp) (by simp) (by simp)
  have HIA : Hid (HIs WA (Pu.HK.sha kt) bi si []) := HI8.out.tch kA (by simp) (by simp) (by simp)
  have IPL : Hid (bo < W8.heap.size ∧ so < W8.heap.size ∧ bi < W8.heap.size ∧ si < W8.heap.size) := ⟨HO8.out.lt.1, HO8.out.lt.2, HI8.out.lt.1, HI8.out.lt.2⟩
  have cA0 : WA.cell? ⟨hv, 0, none⟩ = some (.pointer (some ⟨m, 0, none⟩)) := by rw [RHA.out.cell]; rfl
  have cA1 : WA.cell? ⟨m, 1, none⟩ = some (.slice none 0 0) := by rw [RMA.out.cell]; rfl
  have fA1 := RMA.out.free 1
  clear hWA kA RM8 RH8 T8 HO8 HI8
  go_region_held3 (fun w' => w'.cell? ⟨hv, 0, none⟩ = some (.pointer (some ⟨m, 0, none⟩))) (first | exact c0 | exact cA0 | (rw [World.cell?_setCell_other _ _ _ _ (by intro h; simp only [Addr.mk.injEq] at h; omega)]; assumption)) (fail)
  obtain ⟨ip, hip⟩ : ∃ ip, ip = W8.heap.size := ⟨_, rfl⟩
  rw [← hip] at RIA IPL ⊢
  clear hip
  generalize hWB : World.setCell _ _ _ = WB
  have kB : Tch [m] WA WB := by rw [← hWB]; exact Tch.setCell _ _ _ (by simp)
  have hd := B3.out
  have hd2 := B5.out
  have hd3 := IPL.out
  have hd4 := HKM.out
  have RMB : Hid (Row WB m 95 [.slice none 0 0, .slice (some ⟨ip, 0, none⟩) N N, .iface 74 (.pointer (some ⟨bo, 0, none⟩)), .iface 74 (.pointer (some ⟨bi, 0, none⟩)), .bool false, .bool false, .int .i64 key.length]) := by rw [← hWB]; exact RMA.out.set 1 _
  have RHB : Hid (Row WB hv 65 [.pointer (some ⟨m, 0, none⟩)]) := RHA.out.tch kB (by simp only [List.mem_singleton]; omega)
  have RIB : Hid (Row WB ip 5 (List.replicate N (Value.int .u8 0))) := RIA.out.tch kB (by simp only [List.mem_singleton]; omega)
  have TB : Hid (Tch [] w WB) := TA.out.new kB (by intro i hi; right; rw [List.mem_singleton.1 hi, HMW.out]; exact Nat.le_refl _)
  have HOB : Hid (HIs WB (Pu.HK.sha kt) bo so []) := HOA.out.tch kB (by simp only [List.mem_singleton]; omega) (by simp only [List.mem_singleton]; omega) (by simp only [List.mem_singleton]; omega)
  have HIB : Hid (HIs WB (Pu.HK.sha kt) bi si []) := HIA.out.tch kB (by simp only [List.mem_singleton]; omega) (by simp only [List.mem_singleton]; omega) (by simp only [List.mem_singleton]; omega)
  clear hWB kB RMA RHA RIA TA HOA HIA cA0 cA1 fA1 c0 hd hd2 hd3 hd4 hmk
  have c0 : WB.cell? ⟨hv, 0, none⟩ = some (.pointer (some ⟨m, 0, none⟩)) := by rw [RHB.out.cell]; rfl
  go_wp2
  refine J8.out _ _ (wp_seq_k (fun K9 k9 => ?_))
  have J9 := Lib.hid k9
  clear k9
  obtain ⟨WC, hWC⟩ : ∃ WC, WC = WB.drew.alloc (.cells (List.replicate N (Value.int .u8 0)).toArray 5) := ⟨_, rfl⟩
  have hmk : (Instr.makeSlice 24 (.int .i64 (N : Int)) (.int .i64 (N : Int))).run Try.prog WB.drew = .ok (.slice (some ⟨WB.heap.size, 0, none⟩) N N) WC := by
    rw [hWC]; exact run_make_by N N (Nat.le_refl _) (by omega) WB.drew
  have kC : Tch [] WB WC := by rw [hWC]; exact (Tch.drewN (S := []) WB 1).trans (Tch.alloc _ _)
  have RMC : Hid (Row WC m 95 [.slice none 0 0, .slice (some ⟨ip, 0, none⟩) N N, .iface 74 (.pointer (some ⟨bo, 0, none⟩)), .iface 74 (.pointer (some ⟨bi, 0, none⟩)), .bool false, .bool false, .int .i64 key.length]) := RMB.out.tch kC (by simp)
  have RHC : Hid (Row WC hv 65 [.pointer (some ⟨m, 0, none⟩)]) := RHB.out.tch kC (by simp)
  have RIC : Hid (Row WC ip 5 (List.replicate N (Value.int .u8 0))) := RIB.out.tch kC (by simp)
  have ROC : Hid (Row WC WB.heap.size 5 (List.replicate N (Value.int .u8 0))) := by rw [hWC]; exact Row.new WB.drew 5 _
  have TC : Hid (Tch [] w WC) := TB.out.trans kC
  have HOC : Hid (HIs WC (Pu.HK.sha kt) bo so []) := HOB.out.tch kC (by simp) (by simp) (by simp)
  have HIC : Hid (HIs WC (Pu.HK.sha kt) bi si []) := HIB.out.tch kC (by simp) (by simp) (by simp)
  have OPL : Hid (ip < WB.heap.size) := RIB.out.lt
  have cC0 : WC.cell? ⟨hv, 0, none⟩ = some (.pointer (some ⟨m, 0, none⟩)) := by rw [RHC.out.cell]; rfl
  have cC1 : WC.cell? ⟨m, 0, none⟩ = some (.slice none 0 0) := by rw [RMC.out.cell]; rfl
  have fC1 := RMC.out.free 0
  clear hWC kC RMB RHB RIB TB HOB HIB
  go_region_held3 (fun w' => w'.cell? ⟨hv, 0, none⟩ = some (.pointer (some ⟨m, 0, none⟩))) (first | exact c0 | exact cC0 | (rw [World.cell?_setCell_other _ _ _ _ (by intro h; simp only [Addr.mk.injEq] at h; omega)]; assumption)) (fail)
  obtain ⟨ob, hob⟩ : ∃ ob, ob = WB.heap.size := ⟨_, rfl⟩
  rw [← hob] at ROC OPL ⊢
  clear hob
  generalize hWD : World.setCell _ _ _ = WD
  have kD : Tch [m] WC WD := by rw [← hWD]; exact Tch.setCell _ _ _ (by simp)
  have hd := B3.out
  have hd2 := B5.out
  have hd3 := IPL.out
  have hd4 := HKM.out
  have hd5 := OPL.out
  have hd6 := HN.out
  have RMD : Row WD m 95 [.slice (some ⟨ob, 0, none⟩) N N, .slice (some ⟨ip, 0, none⟩) N N, .iface 74 (.pointer (some ⟨bo, 0, none⟩)), .iface 74 (.pointer (some ⟨bi, 0, none⟩)), .bool false, .bool false, .int .i64 key.length] := by rw [← hWD]; exact RMC.out.set 0 _
  have RHD : Row WD hv 65 [.pointer (some ⟨m, 0, none⟩)] := RHC.out.tch kD (by simp only [List.mem_singleton]; omega)
  have RID : Row WD ip 5 (List.replicate N (Value.int .u8 0)) := RIC.out.tch kD (by simp only [List.mem_singleton]; omega)
  have ROD : Row WD ob 5 (List.replicate N (Value.int .u8 0)) := ROC.out.tch kD (by simp only [List.mem_singleton]; omega)
  have TD : Tch [] w WD := TC.out.new kD (by intro i hi; right; rw [List.mem_singleton.1 hi, HMW.out]; exact Nat.le_refl _)
  have HOD : HIs WD (Pu.HK.sha kt) bo so [] := HOC.out.tch kD (by simp only [List.mem_singleton]; omega) (by simp only [List.mem_singleton]; omega) (by simp only [List.mem_singleton]; omega)
  have HID : HIs WD (Pu.HK.sha kt) bi si [] := HIC.out.tch kD (by simp only [List.mem_singleton]; omega) (by simp only [List.mem_singleton]; omega) (by simp only [List.mem_singleton]; omega)
  have ST : Hid (NewSt w WD (Pu.HK.sha kt) hv m bo so bi si ob ip (List.replicate (Pu.HK.block (Pu.HK.sha kt)) 0) (List.replicate (Pu.HK.block (Pu.HK.sha kt)) 0) [] key.length) := by
    rw [hd6] at RMD RID ROD
    refine ⟨(show Pu.HK.ok (.sha kt) from trivial), RHD, RMD, ?_, ?_, by simp, by simp, ⟨_, HOD⟩, HID, TD, hd4, by rw [HMW.out]; exact Nat.le_refl _, HMH.out, hd, hd2, ⟨hd3.2.2.1, hd3.2.2.2⟩, hd5⟩
    · rw [List.map_replicate]; exact ROD
    · rw [List.map_replicate]; exact RID
  have HOD' := Lib.hid HOD
  clear hWD kD RMD RHD RID ROD TD HID HOD RMC RHC RIC ROC TC HOC HIC cC0 cC1 fC1 hmk c0 hd hd2 hd3 hd4 hd5
  go_wp2
  refine J9.out _ _ ?_
  rw [hd6]
  exact hnKeyD _ w WD ⟨rfl, rfl⟩ (Pu.HK.sha kt) hv m bo so bi si ob ip key _ _ ST.out HOD'.out (HR.out.tch ST.out.tch (by intro b _; simp)) HNM.out HLT.out HKL.out rfl rfl rfl
set_option maxHeartbeats 2000000 in
set_option maxRecDepth 100000 in
theorem hmNewO (k s bl : Int) (key : By) (v : Value) (w : World) (hK : 0 < w.heap.size) (hr : Rd w v key) (hnm : Nm v) (hlt : ∀ b, v.ownBlock = some b → b < w.heap.size) (hkl : key.length ≤ 1099511627776) :
    Calls Try.prog 65 #[(.func (.func 51) #[.agg #[.int .i64 k, .int .i64 s, .int .i64 bl]] #[]), v] w (HNE w (Pu.HK.own (szOf s bl) (blOf s bl)) key) := by
  obtain ⟨vp, vc, rfl, _, _, _⟩ := id hr
  have HK := Lib.hid hK
  have HR := Lib.hid hr
  have HNM := Lib.hid hnm
  have HLT := Lib.hid hlt
  have HKL := Lib.hid hkl
  clear hK hr hnm hlt hkl
  go_enter Try.func65, Try.ntmps65
  refine wp_seq_k (fun K0 k0 => ?_)
  have J0 := Lib.hid k0
  clear k0
  go_wp2
  refine J0.out _ _ (wp_seq_k (fun K1 k1 => ?_))
  have J1 := Lib.hid k1
  clear k1
  go_wp2
  generalize hW2 : World.alloc _ _ = W2
  have RM : Hid (Row W2 w.heap.size 95 [.slice none 0 0, .slice none 0 0, .nilIface, .nilIface, .bool false, .bool false, .int .i64 key.length]) := by rw [← hW2]; exact (Row.new w 95 _).alloc _
  have RH : Hid (Row W2 (w.heap.size + 1) 65 [.pointer (some ⟨w.heap.size, 0, none⟩)]) := by
    rw [← hW2]
    have := Row.new (w.alloc (.cells #[.slice none 0 0, .slice none 0 0, .nilIface, .nilIface, .bool false, .bool false, .int .i64 key.length] 95)) 65 [.pointer (some ⟨w.heap.size, 0, none⟩)]
    rwa [World.size_alloc] at this
  have T2 : Hid (Tch [] w W2) := by rw [← hW2]; exact (Tch.alloc _ _).trans (Tch.alloc _ _)
  clear hW2
  obtain ⟨m, hm⟩ : ∃ m, m = w.heap.size := ⟨_, rfl⟩
  obtain ⟨hv, hhv⟩ : ∃ hv, hv = w.heap.size + 1 := ⟨_, rfl⟩
  rw [← hhv] at RH ⊢
  rw [← hm] at RM RH ⊢
  have hmh : m < hv := by omega
  have HMH := Lib.hid hmh
  have HMW := Lib.hid hm
  clear hm hhv
  have c0 : W2.cell? ⟨hv, 0, none⟩ = some (.pointer (some ⟨m, 0, none⟩)) := by rw [RH.out.cell]; rfl
  refine J1.out _ _ (wp_seq_k (fun K2 k2 => ?_))
  have J2 := Lib.hid k2
  clear k2
  go_region_held3 (fun w' => w'.cell? ⟨hv, 0, none⟩ = some (.pointer (some ⟨m, 0, none⟩))) (first | exact c0 | assumption | (rw [World.cell?_setCell_other _ _ _ _ (by intro h; simp only [Addr.mk.injEq] at h; omega)]; assumption)) (first | (go_at_call 51; refine (newO k s bl _).mono ?_; rintro e w3 ⟨bo, so, rfl, h3⟩; have c0' : w3.cell? ⟨hv, 0, none⟩ = some (.pointer (some ⟨m, 0, none⟩)) := h3.out.2.1.cell c0 (by simp); have c2' : w3.cell? ⟨m, 2, none⟩ = some .nilIface := by { rw [(RM.out.tch ((Tch.drewN (S := []) W2 1).trans h3.out.2.1) (by simp)).cell]; rfl }; have f2' : w3.frozen? ⟨m, 2, none⟩ = false := (RM.out.tch ((Tch.drewN (S := []) W2 1).trans h3.out.2.1) (by simp)).free 2))
  have hKm : 0 < m := by rw [HMW.out]; exact HK.out
  have HKM := Lib.hid hKm
  have B3 : Hid (hv < bo ∧ hv < so) := by
    have h1 := RH.out.lt
    have h2 : W2.heap.size ≤ bo := h3.out.2.2.1
    have h4 : W2.heap.size ≤ so := h3.out.2.2.2
    exact ⟨by omega, by omega⟩
  generalize hW4 : World.setCell _ _ _ = W4
  have k4 : Tch [m] w3 W4 := by rw [← hW4]; exact Tch.setCell _ _ _ (by simp)
  have RM4 : Hid (Row W4 m 95 [.slice none 0 0, .slice none 0 0, .iface 77 (.pointer (some ⟨bo, 0, none⟩)), .nilIface, .bool false, .bool false, .int .i64 key.length]) := by
    rw [← hW4]; exact (RM.out.tch ((Tch.drewN (S := []) W2 1).trans h3.out.2.1) (by simp)).set 2 _
  have RH4 : Hid (Row W4 hv 65 [.pointer (some ⟨m, 0, none⟩)]) := (RH.out.tch ((Tch.drewN (S := []) W2 1).trans h3.out.2.1) (by simp)).tch k4 (by simp only [List.mem_singleton]; omega)
  have T4 : Hid (Tch [] w W4) := (T2.out.trans ((Tch.drewN (S := []) W2 1).trans h3.out.2.1)).new k4 (by intro i hi; right; rw [List.mem_singleton.1 hi, HMW.out]; exact Nat.le_refl _)
  have HO4 : Hid (HIs W4 (Pu.HK.own (szOf s bl) (blOf s bl)) bo so []) := by
    have := B3.out
    exact h3.out.1.tch k4 (by simp only [List.mem_singleton]; omega) (by simp only [List.mem_singleton]; omega) (by simp only [List.mem_singleton]; omega)
  clear hW4 k4 h3 c0 c0' c2' f2' RM RH T2 hKm
  have c0 : W4.cell? ⟨hv, 0, none⟩ = some (.pointer (some ⟨m, 0, none⟩)) := by rw [RH4.out.cell]; rfl
  go_wp2
  refine J2.out _ _ (wp_seq_k (fun K3 k3 => ?_))
  have J3 := Lib.hid k3
  clear k3
  go_region_held3 (fun w' => w'.cell? ⟨hv, 0, none⟩ = some (.pointer (some ⟨m, 0, none⟩))) (first | exact c0 | assumption | (rw [World.cell?_setCell_other _ _ _ _ (by intro h; simp only [Addr.mk.injEq] at h; omega)]; assumption)) (first | (go_at_call 51; refine (newO k s bl _).mono ?_; rintro e w5 ⟨bi, si, rfl, h5⟩; have c0' : w5.cell? ⟨hv, 0, none⟩ = some (.pointer (some ⟨m, 0, none⟩)) := h5.out.2.1.cell c0 (by simp); have c3' : w5.cell? ⟨m, 3, none⟩ = some .nilIface := by { rw [(RM4.out.tch ((Tch.drewN (S := []) W4 1).trans h5.out.2.1) (by simp)).cell]; rfl }; have f3' : w5.frozen? ⟨m, 3, none⟩ = false := (RM4.out.tch ((Tch.drewN (S := []) W4 1).trans h5.out.2.1) (by simp)).free 3))
  have B5 : Hid (bo < bi ∧ bo < si ∧ so < bi ∧ so < si) := by
    have h1 := HO4.out.lt
    have h2 : W4.heap.size ≤ bi := h5.out.2.2.1
    have h4 : W4.heap.size ≤ si := h5.out.2.2.2
    exact ⟨by omega, by omega, by omega, by omega⟩
  generalize hW6 : World.setCell _ _ _ = W6
  have k6 : Tch [m] w5 W6 := by rw [← hW6]; exact Tch.setCell _ _ _ (by simp)
  have RM6 : Hid (Row W6 m 95 [.slice none 0 0, .slice none 0 0, .iface 77 (.pointer (some ⟨bo, 0, none⟩)), .iface 77 (.pointer (some ⟨bi, 0, none⟩)), .bool false, .bool false, .int .i64 key.length]) := by
    rw [← hW6]; exact (RM4.out.tch ((Tch.drewN (S := []) W4 1).trans h5.out.2.1) (by simp)).set 3 _
  have RH6 : Hid (Row W6 hv 65 [.pointer (some ⟨m, 0, none⟩)]) := (RH4.out.tch ((Tch.drewN (S := []) W4 1).trans h5.out.2.1) (by simp)).tch k6 (by simp only [List.mem_singleton]; omega)
  have T6 : Hid (Tch [] w W6) := (T4.out.trans ((Tch.drewN (S := []) W4 1).trans h5.out.2.1)).new k6 (by intro i hi; right; rw [List.mem_singleton.1 hi, HMW.out]; exact Nat.le_refl _)
  have HO6 : Hid (HIs W6 (Pu.HK.own (szOf s bl) (blOf s bl)) bo so []) := by
    have := B3.out; have := HKM.out
    exact (HO4.out.tch ((Tch.drewN (S := []) W4 1).trans h5.out.2.1) (by simp) (by simp) (by simp)).tch k6 (by simp only [List.mem_singleton]; omega) (by simp only [List.mem_singleton]; omega) (by simp only [List.mem_singleton]; omega)
  have HI6 : Hid (HIs W6 (Pu.HK.own (szOf s bl) (blOf s bl)) bi si []) := by
    have := B3.out; have := B5.out; have := HKM.out
    exact h5.out.1.tch k6 (by simp only [List.mem_singleton]; omega) (by simp only [List.mem_singleton]; omega) (by simp only [List.mem_singleton]; omega)
  clear hW6 k6 h5 c0 c0' c3' f3' RM4 RH4 T4 HO4
  go_wp2
  refine J3.out _ _ (wp_seq_k (fun K4 k4 => ?_))
  have J4 := Lib.hid k4
  clear k4
  go_wp2
  have HO6s : Hid (bo < W6.heap.size ∧ so < W6.heap.size) := HO6.out.lt
  have HI6s : Hid (bi < W6.heap.size ∧ si < W6.heap.size) := HI6.out.lt
  generalize hW7 : World.alloc _ _ = W7
  have k7 : Tch [] W6 W7 := by rw [← hW7]; exact Tch.alloc _ _
  have U7 : Hid (Row W7 W6.heap.size 4 [.bool true]) := by rw [← hW7]; exact Row.new W6 4 _
  have RM7 : Hid (Row W7 m 95 [.slice none 0 0, .slice none 0 0, .iface 77 (.pointer (some ⟨bo, 0, none⟩)), .iface 77 (.pointer (some ⟨bi, 0, none⟩)), .bool false, .bool false, .int .i64 key.length]) := RM6.out.tch k7 (by simp)
  have RH7 : Hid (Row W7 hv 65 [.pointer (some ⟨m, 0, none⟩)]) := RH6.out.tch k7 (by simp)
  have T7 : Hid (Tch [] w W7) := T6.out.trans k7
  have HO7 : Hid (HIs W7 (Pu.HK.own (szOf s bl) (blOf s bl)) bo so []) := HO6.out.tch k7 (by simp) (by simp) (by simp)
  have HI7 : Hid (HIs W7 (Pu.HK.own (szOf s bl) (blOf s bl)) bi si []) := HI6.out.tch k7 (by simp) (by simp) (by simp)
  clear hW7 k7 RM6 RH6 T6 HO6 HI6
  have c0 : W7.cell? ⟨hv, 0, none⟩ = some (.pointer (some ⟨m, 0, none⟩)) := by rw [RH7.out.cell]; rfl
  have c2 : W7.cell? ⟨m, 2, none⟩ = some (.iface 77 (.pointer (some ⟨bo, 0, none⟩))) := by rw [RM7.out.cell]; rfl
  have c3 : W7.cell? ⟨m, 3, none⟩ = some (.iface 77 (.pointer (some ⟨bi, 0, none⟩))) := by rw [RM7.out.cell]; rfl
  obtain ⟨x, hx⟩ := rowO HO7.out
  obtain ⟨y, hy⟩ := rowO HI7.out
  have HCL := Lib.hid (closO W7 hv W6.heap.size m bo bi x y c0 c2 c3 hx hy (by have := B5.out; omega))
  have hmf : ∀ (fn : Fn) (first cap : Array Value) (w : World), (Instr.makeFunc fn first cap).run Try.prog w = .ok (.func fn first cap) w := fun _ _ _ _ => rfl
  have hnot : (Op.unary .not (.bool true)) = pure (.bool false) := rfl
  clear hx hy x y c0 c2 c3
  refine J4.out _ _ (wp_seq_k (fun K5 k5 => ?_))
  have J5 := Lib.hid k5
  clear k5
  go_wp2_with (fail)
  refine HCL.out.mono ?_
  rintro e W8 ⟨rfl, h8⟩
  have k8 : Tch [] W7 W8 := h8.out
  have U8 : Hid (Row W8 W6.heap.size 4 [.bool true]) := U7.out.tch k8 (by simp)
  have RM8 : Hid (Row W8 m 95 [.slice none 0 0, .slice none 0 0, .iface 77 (.pointer (some ⟨bo, 0, none⟩)), .iface 77 (.pointer (some ⟨bi, 0, none⟩)), .bool false, .bool false, .int .i64 key.length]) := RM7.out.tch k8 (by simp)
  have RH8 : Hid (Row W8 hv 65 [.pointer (some ⟨m, 0, none⟩)]) := RH7.out.tch k8 (by simp)
  have T8 : Hid (Tch [] w W8) := T7.out.trans k8
  have HO8 : Hid (HIs W8 (Pu.HK.own (szOf s bl) (blOf s bl)) bo so []) := HO7.out.tch k8 (by simp) (by simp) (by simp)
  have HI8 : Hid (HIs W8 (Pu.HK.own (szOf s bl) (blOf s bl)) bi si []) := HI7.out.tch k8 (by simp) (by simp) (by simp)
  clear k8 h8 HCL U7 RM7 RH7 T7 HO7 HI7
  have c0 : W8.cell? ⟨hv, 0, none⟩ = some (.pointer (some ⟨m, 0, none⟩)) := by rw [RH8.out.cell]; rfl
  have c3 : W8.cell? ⟨m, 3, none⟩ = some (.iface 77 (.pointer (some ⟨bi, 0, none⟩))) := by rw [RM8.out.cell]; rfl
  have cu : W8.cell? ⟨W6.heap.size, 0, none⟩ = some (.bool true) := by rw [U8.out.cell]; rfl
  go_wp2
  refine J5.out _ _ (wp_seq_k (fun K6 k6 => ?_))
  have J6 := Lib.hid k6
  clear k6
  go_wp2
  refine J6.out _ _ (wp_seq_k (fun K7 k7 => ?_))
  have J7 := Lib.hid k7
  clear k7
  have e1 := mBlockSize (Pu.HK.own (szOf s bl) (blOf s bl))
  have e2 := cBlockSize (Pu.HK.own (szOf s bl) (blOf s bl))
  go_wp2_with (fail)
  refine (hBlock (Pu.HK.own (szOf s bl) (blOf s bl)) bi si [] W8 HI8.out).mono ?_
  rintro e W9 ⟨rfl, rfl⟩
  obtain ⟨N, hN⟩ : ∃ N, N = Pu.HK.block (Pu.HK.own (szOf s bl) (blOf s bl)) := ⟨_, rfl⟩
  have HN := Lib.hid hN
  have hN64 : N ≤ 64 := by rw [hN]; exact Pu.HK.ok.block_le (own_ok s bl)
  rw [← hN]
  clear hN c3 cu e1 e2 hmf hnot U8
  go_wp2
  refine J7.out _ _ (wp_seq_k (fun K8 k8 => ?_))
  have J8 := Lib.hid k8
  clear k8
  obtain ⟨WA, hWA⟩ : ∃ WA, WA = W8.drew.alloc (.cells (List.replicate N (Value.int .u8 0)).toArray 5) := ⟨_, rfl⟩
  have hmk : (Instr.makeSlice 24 (.int .i64 (N : Int)) (.int .i64 (N : Int))).run Try.prog W8.drew = .ok (.slice (some ⟨W8.heap.size, 0, none⟩) N N) WA := by
    rw [hWA]; exact run_make_by N N (Nat.le_refl _) (by omega) W8.drew
  have kA : Tch [] W8 WA := by rw [hWA]; exact (Tch.drewN (S := []) W8 1).trans (Tch.alloc _ _)
  have RMA : Hid (Row WA m 95 [.slice none 0 0, .slice none 0 0, .iface 77 (.pointer (some ⟨bo, 0, none⟩)), .iface 77 (.pointer (some ⟨bi, 0, none⟩)), .bool false, .bool false, .int .i64 key.length]) := RM8.out.tch kA (by simp)
  have RHA : Hid (Row WA hv 65 [.pointer (some ⟨m, 0, none⟩)]) := RH8.out.tch kA (by simp)
  have RIA : Hid (Row WA W8.heap.size 5 (List.replicate N (Value.int .u8 0))) := by rw [hWA]; exact Row.new W8.drew 5 _
  have TA : Hid (Tch [] w WA) := T8.out.trans kA
  have HOA : Hid (HIs WA (Pu.HK.own (szOf s bl) (blOf s bl)) bo so []) := HO8.out.tch kA (by simp) (by simp) (by simp)
  have HIA : Hid (HIs WA (Pu.HK.own (szOf s bl) (blOf s bl)) bi si []) := HI8.out.tch kA (by simp) (by simp) (by simp)
  have IPL : Hid (bo < W8.heap.size ∧ so < W8.heap.size ∧ bi < W8.heap.size ∧ si < W8.heap.size) := ⟨HO8.out.lt.1, HO8.out.lt.2, HI8.out.lt.1, HI8.out.lt.2⟩
  have cA0 : WA.cell? ⟨hv, 0, none⟩ = some (.pointer (some ⟨m, 0, none⟩)) := by rw [RHA.out.cell]; rfl
  have cA1 : WA.cell? ⟨m, 1, none⟩ = some (.slice none 0 0) := by rw [RMA.out.cell]; rfl
  have fA1 := RMA.out.free 1
  clear hWA kA RM8 RH8 T8 HO8 HI8
  go_region_held3 (fun w' => w'.cell? ⟨hv, 0, none⟩ = some (.pointer (some ⟨m, 0, none⟩))) (first | exact c0 | exact cA0 | (rw [World.cell?_setCell_other _ _ _ _ (by intro h; simp only [Addr.mk.injEq] at h; omega)]; assumption)) (fail)
  obtain ⟨ip, hip⟩ : ∃ ip, ip = W8.heap.size := ⟨_, rfl⟩
  rw [← hip] at RIA IPL ⊢
  clear hip
  generalize hWB : World.setCell _ _ _ = WB
  have kB : Tch [m] WA WB := by rw [← hWB]; exact Tch.setCell _ _ _ (by simp)
  have hd := B3.out
  have hd2 := B5.out
  have hd3 := IPL.out
  have hd4 := HKM.out
  have RMB : Hid (Row WB m 95 [.slice none 0 0, .slice (some ⟨ip, 0, none⟩) N N, .iface 77 (.pointer (some ⟨bo, 0, none⟩)), .iface 77 (.pointer (some ⟨bi, 0, none⟩)), .bool false, .bool false, .int .i64 key.length]) := by rw [← hWB]; exact RMA.out.set 1 _
  have RHB : Hid (Row WB hv 65 [.pointer (some ⟨m, 0, none⟩)]) := RHA.out.tch kB (by simp only [List.mem_singleton]; omega)
  have RIB : Hid (Row WB ip 5 (List.replicate N (Value.int .u8 0))) := RIA.out.tch kB (by simp only [List.mem_singleton]; omega)
  have TB : Hid (Tch [] w WB) := TA.out.new kB (by intro i hi; right; rw [List.mem_singleton.1 hi, HMW.out]; exact Nat.le_refl _)
  have HOB : Hid (HIs WB (Pu.HK.own (szOf s bl) (blOf s bl)) bo so []) := HOA.out.tch kB (by simp only [List.mem_singleton]; omega) (by simp only [List.mem_singleton]; omega) (by simp only [List.mem_singleton]; omega)
  have HIB : Hid (HIs WB (Pu.HK.own (szOf s bl) (blOf s bl)) bi si []) := HIA.out.tch kB (by simp only [List.mem_singleton]; omega) (by simp only [List.mem_singleton]; omega) (by simp only [List.mem_singleton]; omega)
  clear hWB kB RMA RHA RIA TA HOA HIA cA0 cA1 fA1 c0 hd hd2 hd3 hd4 hmk
  have c0 : WB.cell? ⟨hv, 0, none⟩ = some (.pointer (some ⟨m, 0, none⟩)) := by rw [RHB.out.cell]; rfl
  go_wp2
  refine J8.out _ _ (wp_seq_k (fun K9 k9 => ?_))
  have J9 := Lib.hid k9
  clear k9
  obtain ⟨WC, hWC⟩ : ∃ WC, WC = WB.drew.alloc (.cells (List.replicate N (Value.int .u8 0)).toArray 5) := ⟨_, rfl⟩
  have hmk : (Instr.makeSlice 24 (.int .i64 (N : Int)) (.int .i64 (N : Int))).run Try.prog WB.drew = .ok (.slice (some ⟨WB.heap.size, 0, none⟩) N N) WC := by
    rw [hWC]; exact run_make_by N N (Nat.le_refl _) (by omega) WB.drew
  have kC : Tch [] WB WC := by rw [hWC]; exact (Tch.drewN (S := []) WB 1).trans (Tch.alloc _ _)
  have RMC : Hid (Row WC m 95 [.slice none 0 0, .slice (some ⟨ip, 0, none⟩) N N, .iface 77 (.pointer (some ⟨bo, 0, none⟩)), .iface 77 (.pointer (some ⟨bi, 0, none⟩)), .bool false, .bool false, .int .i64 key.length]) := RMB.out.tch kC (by simp)
  have RHC : Hid (Row WC hv 65 [.pointer (some ⟨m, 0, none⟩)]) := RHB.out.tch kC (by simp)
  have RIC : Hid (Row WC ip 5 (List.replicate N (Value.int .u8 0))) := RIB.out.tch kC (by simp)
  have ROC : Hid (Row WC WB.heap.size 5 (List.replicate N (Value.int .u8 0))) := by rw [hWC]; exact Row.new WB.drew 5 _
  have TC : Hid (Tch [] w WC) := TB.out.trans kC
  have HOC : Hid (HIs WC (Pu.HK.own (szOf s bl) (blOf s bl)) bo so []) := HOB.out.tch kC (by simp) (by simp) (by simp)
  have HIC : Hid (HIs WC (Pu.HK.own (szOf s bl) (blOf s bl)) bi si []) := HIB.out.tch kC (by simp) (by simp) (by simp)
  have OPL : Hid (ip < WB.heap.size) := RIB.out.lt
  have cC0 : WC.cell? ⟨hv, 0, none⟩ = some (.pointer (some ⟨m, 0, none⟩)) := by rw [RHC.out.cell]; rfl
  have cC1 : WC.cell? ⟨m, 0, none⟩ = some (.slice none 0 0) := by rw [RMC.out.cell]; rfl
  have fC1 := RMC.out.free 0
  clear hWC kC RMB RHB RIB TB HOB HIB
  go_region_held3 (fun w' => w'.cell? ⟨hv, 0, none⟩ = some (.pointer (some ⟨m, 0, none⟩))) (first | exact c0 | exact cC0 | (rw [World.cell?_setCell_other _ _ _ _ (by intro h; simp only [Addr.mk.injEq] at h; omega)]; assumption)) (fail)
  obtain ⟨ob, hob⟩ : ∃ ob, ob = WB.heap.size := ⟨_, rfl⟩
  rw [← hob] at ROC OPL ⊢
  clear hob
  generalize hWD : World.setCell _ _ _ = WD
  have kD : Tch [m] WC WD := by rw [← hWD]; exact Tch.setCell _ _ _ (by simp)
  have hd := B3.out
  have hd2 := B5.out
  have hd3 := IPL.out
  have hd4 := HKM.out
  have hd5 := OPL.out
  have hd6 := HN.out
  have RMD : Row WD m 95 [.slice (some ⟨ob, 0, none⟩) N N, .slice (some ⟨ip, 0, none⟩) N N, .iface 77 (.pointer (some ⟨bo, 0, none⟩)), .iface 77 (.pointer (some ⟨bi, 0, none⟩)), .bool false, .bool false, .int .i64 key.length] := by rw [← hWD]; exact RMC.out.set 0 _
  have RHD : Row WD hv 65 [.pointer (some ⟨m, 0, none⟩)] := RHC.out.tch kD (by simp only [List.mem_singleton]; omega)
  have RID : Row WD ip 5 (List.replicate N (Value.int .u8 0)) := RIC.out.tch kD (by simp only [List.mem_singleton]; omega)
  have ROD : Row WD ob 5 (List.replicate N (Value.int .u8 0)) := ROC.out.tch kD (by simp only [List.mem_singleton]; omega)
  have TD : Tch [] w WD := TC.out.new kD (by intro i hi; right; rw [List.mem_singleton.1 hi, HMW.out]; exact Nat.le_refl _)
  have HOD : HIs WD (Pu.HK.own (szOf s bl) (blOf s bl)) bo so [] := HOC.out.tch kD (by simp only [List.mem_singleton]; omega) (by simp only [List.mem_singleton]; omega) (by simp only [List.mem_singleton]; omega)
  have HID : HIs WD (Pu.HK.own (szOf s bl) (blOf s bl)) bi si [] := HIC.out.tch kD (by simp only [List.mem_singleton]; omega) (by simp only [List.mem_singleton]; omega) (by simp only [List.mem_singleton]; omega)
  have ST : Hid (NewSt w WD (Pu.HK.own (szOf s bl) (blOf s bl)) hv m bo so bi si ob ip (List.replicate (Pu.HK.block (Pu.HK.own (szOf s bl) (blOf s bl))) 0) (List.replicate (Pu.HK.block (Pu.HK.own (szOf s bl) (blOf s bl))) 0) [] key.length) := by
    rw [hd6] at RMD RID ROD
    refine ⟨(own_ok s bl), RHD, RMD, ?_, ?_, by simp, by simp, ⟨_, HOD⟩, HID, TD, hd4, by rw [HMW.out]; exact Nat.le_refl _, HMH.out, hd, hd2, ⟨hd3.2.2.1, hd3.2.2.2⟩, hd5⟩
    · rw [List.map_replicate]; exact ROD
    · rw [List.map_replicate]; exact RID
  have HOD' := Lib.hid HOD
  clear hWD kD RMD RHD RID ROD TD HID HOD RMC RHC RIC ROC TC HOC HIC cC0 cC1 fC1 hmk c0 hd hd2 hd3 hd4 hd5
  go_wp2
  refine J9.out _ _ ?_
  rw [hd6]
  exact hnKeyO _ w WD ⟨rfl, rfl⟩ (Pu.HK.own (szOf s bl) (blOf s bl)) hv m bo so bi si ob ip key _ _ ST.out HOD'.out (HR.out.tch ST.out.tch (by intro b _; simp)) HNM.out HLT.out HKL.out rfl rfl rfl
end Go.Proofs.Ytgomodhhomekpaa
