/-
  FnAgain: its walk.
-/
import Derived.Test.YtgomodhhomekpaaM6
import Derived.Test.YtgomodhhomekpaaSa
import Derived.Test.YtgomodhhomekpaaHv
import Derived.Test.YtgomodhhomekpaaSc
namespace Go.Proofs.Ytgomodhhomekpaa
open Go.RowKit Pu Ar
theorem runS_len (hk : Pu.HK) (key : By) (l : List (Int × By)) : ∀ st : By × List By, (l.foldl (stp hk key) st).1.length ≤ st.1.length + (l.map fun s => s.2.length).sum ∧ (l.foldl (stp hk key) st).2.length ≤ st.2.length + l.length := by
  induction l with
  | nil => intro st; simp
  | cons s l ih =>
    intro st
    simp only [List.foldl_cons, List.map_cons, List.sum_cons, List.length_cons]
    obtain ⟨h1, h2⟩ := ih (stp hk key st s)
    have h3 : (stp hk key st s).1.length ≤ st.1.length + s.2.length ∧ (stp hk key st s).2.length ≤ st.2.length + 1 := by
      unfold stp
      split
      · simp
      · split
        · simp
        · simp
    omega
theorem sum_take (l : List (Int × By)) : ∀ i : Nat, ((l.take i).map fun s => s.2.length).sum ≤ (l.map fun s => s.2.length).sum := by
  induction l with
  | nil => intro i; simp
  | cons s l ih =>
    intro i
    cases i with
    | zero => simp
    | succ i => have := ih i; simp only [List.take_succ_cons, List.map_cons, List.sum_cons]; omega
theorem againS (hk : Pu.HK) (key a b : By) : (runS hk key [((0 : Int), a), (1, []), (1, []), (0, b), (1, []), (2, []), (0, a), (1, [])]).2 = [mac hk key a, mac hk key a, mac hk key (a ++ b), mac hk key a] := by
  simp [runS, stp]
set_option linter.unusedSimpArgs false in
set_option maxHeartbeats 2000000 in
set_option maxRecDepth 100000 in
theorem fnAgain (kt : List UInt32) (k s bl : Int) (key : By) (a : By) (b : By) (keyV : Value) (aV : Value) (bV : Value) (w : World) (hK : KIs w kt) (hkey : Rd w keyV key ∧ Nm keyV) (ha : Rd w aV a ∧ Nm aV) (hb : Rd w bV b ∧ Nm bV) :
    Calls Try.prog 11 #[.agg #[.int .i64 k, .int .i64 s, .int .i64 bl], keyV, aV, bV] w fun e w' => e = .returned (.bool true) ∧ Hid (Tch [] w w') := by
  obtain ⟨hkey, hkeyN⟩ := hkey
  obtain ⟨keyp, keyc, rfl⟩ := rd_ex hkey
  have Rkey := Lib.hid hkey
  have Nkey := Lib.hid hkeyN
  clear hkey hkeyN
  obtain ⟨ha, haN⟩ := ha
  obtain ⟨ap, ac, rfl⟩ := rd_ex ha
  have Ra := Lib.hid ha
  have Na := Lib.hid haN
  clear ha haN
  obtain ⟨hb, hbN⟩ := hb
  obtain ⟨bp, bc, rfl⟩ := rd_ex hb
  have Rb := Lib.hid hb
  have Nb := Lib.hid hbN
  clear hb hbN
  have HK := Lib.hid hK
  clear hK
  go_enter Try.func11, Try.ntmps11
  refine wp_seq_k (fun K0 k0 => ?_)
  have J0 := Lib.hid k0
  clear k0
  go_wp2
  generalize hW1 : World.alloc _ _ = W1
  have R1 : Row W1 w.heap.size 23 [.int .i64 k, .int .i64 s, .int .i64 bl] := by rw [← hW1]; exact Row.new w 23 _
  have T1 : Hid (Tch [] w W1) := by rw [← hW1]; exact Tch.alloc _ _
  have c0 : W1.cell? ⟨w.heap.size, 0, none⟩ = some (.int .i64 k) := by rw [R1.cell]; rfl
  have c1 : W1.cell? ⟨w.heap.size, 1, none⟩ = some (.int .i64 s) := by rw [R1.cell]; rfl
  have c2 : W1.cell? ⟨w.heap.size, 2, none⟩ = some (.int .i64 bl) := by rw [R1.cell]; rfl
  clear hW1 R1
  obtain ⟨c, hc⟩ : ∃ c, c = w.heap.size := ⟨_, rfl⟩
  rw [← hc] at c0 c1 c2 ⊢
  clear hc
  obtain ⟨Z, hZ⟩ : ∃ Z, Z = szK k s bl := ⟨_, rfl⟩
  have HZ := Lib.hid hZ
  have zz := szK_bd k s bl
  rw [← hZ] at zz
  clear hZ
  have z1 : (1 : Int) ≤ Z := by omega
  have z2 : (Z : Int) ≤ 32 := by omega
  clear zz
  refine J0.out _ _ (wp_seq_k (fun K1 k1 => ?_))
  have J1 := Lib.hid k1
  clear k1
  by_cases zkey : 2147483647 < (key.length : Int)
  · go_wp2
    go_ret
    exact ⟨rfl, T1.out⟩
  by_cases za : 2147483647 < (a.length : Int)
  · go_wp2
    go_ret
    exact ⟨rfl, T1.out⟩
  by_cases zb : 2147483647 < (b.length : Int)
  · go_wp2
    go_ret
    exact ⟨rfl, T1.out⟩
  have KA : Hid (∀ w', Tch [] W1 w' → (w'.cell? ⟨c, 0, none⟩ = some (.int .i64 k) ∧ w'.cell? ⟨c, 1, none⟩ = some (.int .i64 s) ∧ w'.cell? ⟨c, 2, none⟩ = some (.int .i64 bl))) := fun w' h => ⟨h.cell c0 (by simp), h.cell c1 (by simp), h.cell c2 (by simp)⟩
  have HLS : Hid (∀ p ∈ [key, a, b], p.length ≤ 2147483647) := by
    intro p hp
    simp only [List.mem_cons, List.not_mem_nil, or_false] at hp
    rcases hp with rfl | rfl | rfl <;> omega
  go_wp2
  refine J1.out _ _ (wp_seq_k (fun K2 k2 => ?_))
  have J2 := Lib.hid k2
  clear k2
  go_wp2_with (fail)
  refine (lLong [key, a, b] _ _ (prd_three (Rkey.out.tchNil T1.out) (Ra.out.tchNil T1.out) (Rb.out.tchNil T1.out)) HLS.out).mono ?_
  rintro e W2 ⟨rfl, hW2⟩
  have t2 : Tch [] W1 W2 := by rw [← hW2]; exact Tch.alloc _ _
  have T2 : Hid (Tch [] w W2) := T1.out.trans t2
  obtain ⟨d0, d1, d2⟩ := KA.out _ t2
  clear hW2 t2 c0 c1 c2 HLS KA
  obtain ⟨t, ht⟩ : ∃ t, t = decide (1048576 < [key, a, b].flatten.length) := ⟨_, rfl⟩
  rw [← ht]
  have HTL := Lib.hid ht
  clear ht
  cases t with
  | true =>
    go_wp2
    go_ret
    exact ⟨rfl, T2.out⟩
  | false =>
    have HLEN : Hid (key.length + a.length + b.length ≤ 1048576) := by
      have h := of_decide_eq_false HTL.out.symm
      simp only [List.flatten_cons, List.flatten_nil, List.append_nil, List.length_append] at h
      show _ ≤ _
      omega
    clear HTL
    go_wp2
    refine J2.out _ _ (wp_seq_k (fun K3 k3 => ?_))
    have J3 := Lib.hid k3
    clear k3
    have HST : Hid (∀ (W : World) (sb : Nat), Tch [] W2 W → Row W sb 47 [.int .i64 0, .slice ap a.length ac, .int .i64 1, .slice none 0 0, .int .i64 1, .slice none 0 0, .int .i64 0, .slice bp b.length bc, .int .i64 1, .slice none 0 0, .int .i64 2, .slice none 0 0, .int .i64 0, .slice ap a.length ac, .int .i64 1, .slice none 0 0] → SRd W (.slice (some ⟨sb, 0, none⟩) 8 8) [((0 : Int), a), (1, []), (1, []), (0, b), (1, []), (2, []), (0, a), (1, [])]) := by
      intro W sb hT hr
      have ha : Rd W (.slice ap a.length ac) a := Ra.out.tchNil (T2.out.trans hT)
      have hb : Rd W (.slice bp b.length bc) b := Rb.out.tchNil (T2.out.trans hT)
      refine ⟨sb, 8, rfl, ?_⟩
      intro i st hst
      match i with
      | 0 => simp at hst; subst hst; exact ⟨_, by rw [hr.cell]; rfl, by rw [hr.cell]; rfl, ha⟩
      | 1 => simp at hst; subst hst; exact ⟨_, by rw [hr.cell]; rfl, by rw [hr.cell]; rfl, Rd.nil W⟩
      | 2 => simp at hst; subst hst; exact ⟨_, by rw [hr.cell]; rfl, by rw [hr.cell]; rfl, Rd.nil W⟩
      | 3 => simp at hst; subst hst; exact ⟨_, by rw [hr.cell]; rfl, by rw [hr.cell]; rfl, hb⟩
      | 4 => simp at hst; subst hst; exact ⟨_, by rw [hr.cell]; rfl, by rw [hr.cell]; rfl, Rd.nil W⟩
      | 5 => simp at hst; subst hst; exact ⟨_, by rw [hr.cell]; rfl, by rw [hr.cell]; rfl, Rd.nil W⟩
      | 6 => simp at hst; subst hst; exact ⟨_, by rw [hr.cell]; rfl, by rw [hr.cell]; rfl, ha⟩
      | 7 => simp at hst; subst hst; exact ⟨_, by rw [hr.cell]; rfl, by rw [hr.cell]; rfl, Rd.nil W⟩
      | i + 8 => simp at hst
    have HRL : Hid (∀ i : Nat, (runS (kindOf kt k s bl) key (([((0 : Int), a), (1, []), (1, []), (0, b), (1, []), (2, []), (0, a), (1, [])] : List (Int × By)).take i)).1.length ≤ 2147483647 ∧ (runS (kindOf kt k s bl) key (([((0 : Int), a), (1, []), (1, []), (0, b), (1, []), (2, []), (0, a), (1, [])] : List (Int × By)).take i)).2.length ≤ 1000) := by
      intro i
      obtain ⟨h1, h2⟩ := runS_len (kindOf kt k s bl) key (([((0 : Int), a), (1, []), (1, []), (0, b), (1, []), (2, []), (0, a), (1, [])] : List (Int × By)).take i) ([], [])
      have h3 := sum_take [((0 : Int), a), (1, []), (1, []), (0, b), (1, []), (2, []), (0, a), (1, [])] i
      have h4 := HLEN.out
      simp only [List.map_cons, List.map_nil, List.sum_cons, List.sum_nil, List.length_nil] at h3
      simp only [List.length_nil, List.length_take, List.length_cons] at h1 h2
      unfold runS
      omega
    go_wp2_with (fail)
    refine (iSteps kt k s bl key [((0 : Int), a), (1, []), (1, []), (0, b), (1, []), (2, []), (0, a), (1, [])] _ _ _ (HK.out.tch (T2.out.trans (Tch.alloc _ _)) (by simp)) (Rkey.out.tchNil (T2.out.trans (Tch.alloc _ _))) (by have := HLEN.out; omega) (HST.out _ _ (Tch.alloc _ _) (Row.new W2 47 [.int .i64 0, .slice ap a.length ac, .int .i64 1, .slice none 0 0, .int .i64 1, .slice none 0 0, .int .i64 0, .slice bp b.length bc, .int .i64 1, .slice none 0 0, .int .i64 2, .slice none 0 0, .int .i64 0, .slice ap a.length ac, .int .i64 1, .slice none 0 0])) (by simp) (by
      intro s hs
      have := HLEN.out
      simp only [List.mem_cons, List.not_mem_nil, or_false] at hs
      rcases hs with rfl | rfl | rfl | rfl | rfl | rfl | rfl | rfl <;> simp <;> omega) (fun i => (HRL.out i).1) (fun i => (HRL.out i).2)).mono ?_
    rintro e W6 ⟨v6, rfl, h6⟩
    rw [againS] at h6
    obtain ⟨vs, ho, hl, hrd, ht6⟩ := h6.out
    have t6 : Tch [] W2 W6 := (Tch.alloc _ _).trans ht6
    have T6 : Hid (Tch [] w W6) := T2.out.trans t6
    have c0 := t6.cell d0 (by simp)
    have c1 := t6.cell d1 (by simp)
    have c2 := t6.cell d2 (by simp)
    obtain ⟨x0, x1, x2, x3, rfl⟩ : ∃ x0 x1 x2 x3, vs = [x0, x1, x2, x3] := by
      match vs, hl with
      | [x0, x1, x2, x3], _ => exact ⟨x0, x1, x2, x3, rfl⟩
    obtain ⟨g, gc, rfl, hcell⟩ := ho.shape (by simp)
    have y0 := hcell 0 x0 rfl
    have y1 := hcell 1 x1 rfl
    have y2 := hcell 2 x2 rfl
    have y3 := hcell 3 x3 rfl
    have Q0 : Hid (Rd W6 x0 (mac (kindOf kt k s bl) key a)) := hrd 0 x0 _ rfl rfl
    have Q1 : Hid (Rd W6 x1 (mac (kindOf kt k s bl) key a)) := hrd 1 x1 _ rfl rfl
    have Q2 : Hid (Rd W6 x2 (mac (kindOf kt k s bl) key (a ++ b))) := hrd 2 x2 _ rfl rfl
    have Q3 : Hid (Rd W6 x3 (mac (kindOf kt k s bl) key a)) := hrd 3 x3 _ rfl rfl
    have hz1 : (mac (kindOf kt k s bl) key a).length = Z := by rw [mac_length, kind_size, HZ.out]
    have hz2 : (mac (kindOf kt k s bl) key (a ++ b)).length = Z := by rw [mac_length, kind_size, HZ.out]
    obtain ⟨p0, n0, rfl⟩ := rd_ex Q0.out
    obtain ⟨p1, n1, rfl⟩ := rd_ex Q1.out
    obtain ⟨p2, n2, rfl⟩ := rd_ex Q2.out
    obtain ⟨p3, n3, rfl⟩ := rd_ex Q3.out
    rw [hz1] at Q0 Q1 Q3 y0 y1 y3
    rw [hz2] at Q2 y2
    simp only [List.length_cons, List.length_nil]
    clear h6 ho hl hrd ht6 t6 hcell hz1 hz2 d0 d1 d2 HRL HST
    have KA : Hid (∀ w', Tch [] W6 w' → (w'.cell? ⟨c, 0, none⟩ = some (.int .i64 k) ∧ w'.cell? ⟨c, 1, none⟩ = some (.int .i64 s) ∧ w'.cell? ⟨c, 2, none⟩ = some (.int .i64 bl) ∧ w'.cell? ⟨g, 0, none⟩ = some (.slice p0 Z n0) ∧ w'.cell? ⟨g, 1, none⟩ = some (.slice p1 Z n1) ∧ w'.cell? ⟨g, 2, none⟩ = some (.slice p2 Z n2) ∧ w'.cell? ⟨g, 3, none⟩ = some (.slice p3 Z n3))) := fun w' h => ⟨h.cell c0 (by simp), h.cell c1 (by simp), h.cell c2 (by simp), h.cell y0 (by simp), h.cell y1 (by simp), h.cell y2 (by simp), h.cell y3 (by simp)⟩
    have HEQ : Hid (decide (mac (kindOf kt k s bl) key (a ++ b) = mac (kindOf kt k s bl) key [a, b].flatten) = true) := decide_eq_true (by simp)
    go_wp2
    refine J3.out _ _ (wp_seq_k (fun K4 k4 => ?_))
    have J4 := Lib.hid k4
    clear k4
    refine wp_region_held_drew (S := (fun w' => w'.cell? ⟨c, 0, none⟩ = some (.int .i64 k) ∧ w'.cell? ⟨c, 1, none⟩ = some (.int .i64 s) ∧ w'.cell? ⟨c, 2, none⟩ = some (.int .i64 bl) ∧ w'.cell? ⟨g, 0, none⟩ = some (.slice p0 Z n0) ∧ w'.cell? ⟨g, 1, none⟩ = some (.slice p1 Z n1) ∧ w'.cell? ⟨g, 2, none⟩ = some (.slice p2 Z n2) ∧ w'.cell? ⟨g, 3, none⟩ = some (.slice p3 Z n3))) (by kernel_rfl) ?_ (fun hHeld => ?_)
    focus (refine KA.out _ ?_; (repeat (first | exact t8 | exact t7 | exact Tch.refl _ _ | exact Tch.drewN W6 1 | refine Tch.trans ?_ (Tch.alloc _ _) | refine Tch.trans ?_ (Tch.drewN _ 1))))
    refine wpAnyH_take (i := 0) (v := ?v1) rfl (by kernel_rfl) (by kernel_rfl) (by kernel_rfl) (fun _ _ _ h => h) (Or.inl ⟨by kernel_rfl, ?hy1⟩) (by assumption) ?rest1
    case hy1 => (intro w hSw; (try dsimp only at hSw); go_simp; all_goals with_reducible rfl)
    try simp only [Act.put, List.getElem_toArray, List.getElem_cons_succ, List.getElem_cons_zero, List.setIfInBounds_toArray, List.set_cons_zero, List.set_cons_succ]
    refine wpAnyH_take (i := 1) (v := ?v2) rfl (by kernel_rfl) (by kernel_rfl) (by kernel_rfl) (fun _ _ _ h => h) (Or.inl ⟨by kernel_rfl, ?hy2⟩) (by assumption) ?rest2
    case hy2 => (intro w hSw; (try dsimp only at hSw); go_simp; all_goals with_reducible rfl)
    try simp only [Act.put, List.getElem_toArray, List.getElem_cons_succ, List.getElem_cons_zero, List.setIfInBounds_toArray, List.set_cons_zero, List.set_cons_succ]
    refine wpAnyH_take (i := 2) (v := ?v3) rfl (by kernel_rfl) (by kernel_rfl) (by kernel_rfl) (fun _ _ _ h => h) (Or.inl ⟨by kernel_rfl, ?hy3⟩) (by assumption) ?rest3
    case hy3 => (intro w hSw; (try dsimp only at hSw); go_simp; all_goals with_reducible rfl)
    try simp only [Act.put, List.getElem_toArray, List.getElem_cons_succ, List.getElem_cons_zero, List.setIfInBounds_toArray, List.set_cons_zero, List.set_cons_succ]
    refine wpAnyH_take (i := 3) (v := ?v4) rfl (by kernel_rfl) (by kernel_rfl) (by kernel_rfl) (fun _ _ _ h => h) (Or.inl ⟨by kernel_rfl, ?hy4⟩) (by assumption) ?rest4
    case hy4 => (intro w hSw; (try dsimp only at hSw); go_simp; all_goals with_reducible rfl)
    try simp only [Act.put, List.getElem_toArray, List.getElem_cons_succ, List.getElem_cons_zero, List.setIfInBounds_toArray, List.set_cons_zero, List.set_cons_succ]
    refine wpAnyH_take (i := 4) (v := ?v5) rfl (by kernel_rfl) (by kernel_rfl) (by kernel_rfl) (fun _ _ _ h => h) (Or.inl ⟨by kernel_rfl, ?hy5⟩) (by assumption) ?rest5
    case hy5 => (intro w hSw; (try dsimp only at hSw); go_simp; all_goals with_reducible rfl)
    try simp only [Act.put, List.getElem_toArray, List.getElem_cons_succ, List.getElem_cons_zero, List.setIfInBounds_toArray, List.set_cons_zero, List.set_cons_succ]
    refine wpAnyH_take (i := 5) (v := ?v6) rfl (by kernel_rfl) (by kernel_rfl) (by kernel_rfl) (fun _ _ _ h => h) (Or.inl ⟨by kernel_rfl, ?hy6⟩) (by assumption) ?rest6
    case hy6 => (intro w hSw; (try dsimp only at hSw); go_simp; all_goals with_reducible rfl)
    try simp only [Act.put, List.getElem_toArray, List.getElem_cons_succ, List.getElem_cons_zero, List.setIfInBounds_toArray, List.set_cons_zero, List.set_cons_succ]
    refine wpAnyH_take (i := 6) (v := ?v7) rfl (by kernel_rfl) (by kernel_rfl) (by kernel_rfl) (fun _ _ _ h => h) (Or.inl ⟨by kernel_rfl, ?hy7⟩) (by assumption) ?rest7
    case hy7 => (intro w hSw; (try dsimp only at hSw); go_simp; all_goals with_reducible rfl)
    try simp only [Act.put, List.getElem_toArray, List.getElem_cons_succ, List.getElem_cons_zero, List.setIfInBounds_toArray, List.set_cons_zero, List.set_cons_succ]
    refine wpAnyH_take (i := 7) (v := ?v8) rfl (by kernel_rfl) (by kernel_rfl) (by kernel_rfl) (fun _ _ _ h => h) (Or.inl ⟨by kernel_rfl, ?hy8⟩) (by assumption) ?rest8
    case hy8 => (intro w hSw; (try dsimp only at hSw); go_simp; all_goals with_reducible rfl)
    try simp only [Act.put, List.getElem_toArray, List.getElem_cons_succ, List.getElem_cons_zero, List.setIfInBounds_toArray, List.set_cons_zero, List.set_cons_succ]
    refine wpAnyH_take (i := 8) (v := ?v9) rfl (by kernel_rfl) (by kernel_rfl) (by kernel_rfl) (fun _ _ _ h => h) (Or.inl ⟨by kernel_rfl, ?hy9⟩) (by assumption) ?rest9
    case hy9 => (intro w hSw; (try dsimp only at hSw); go_simp; all_goals with_reducible rfl)
    try simp only [Act.put, List.getElem_toArray, List.getElem_cons_succ, List.getElem_cons_zero, List.setIfInBounds_toArray, List.set_cons_zero, List.set_cons_succ]
    refine wpAnyH_ready (rs := [9]) (by kernel_rfl) (by simp) ?_
    refine AllReadyH.cons rfl (fun K hK => ?_) AllReadyH.nil
    go_simp
    refine (sSize k s bl _).mono ?_; rintro e w7 ⟨rfl, h7⟩; have t7 : Tch [] W6 w7 := (Tch.drewN W6 1).trans h7.out; rw [← HZ.out]
    dsimp only
    refine hK.out _ _ ?_ (fun hHeld => ?_)
    focus (refine KA.out _ ?_; (repeat (first | exact t8 | exact t7 | exact Tch.refl _ _ | exact Tch.drewN W6 1 | refine Tch.trans ?_ (Tch.alloc _ _) | refine Tch.trans ?_ (Tch.drewN _ 1))))
    clear hK K
    try simp only [Act.put, List.getElem_toArray, List.getElem_cons_succ, List.getElem_cons_zero, List.setIfInBounds_toArray, List.set_cons_zero, List.set_cons_succ]
    refine wpAnyH_take (i := 10) (v := ?v10) rfl (by kernel_rfl) (by kernel_rfl) (by kernel_rfl) (fun _ _ _ h => h) (Or.inl ⟨by kernel_rfl, ?hy10⟩) (by assumption) ?rest10
    case hy10 => (intro w hSw; (try dsimp only at hSw); go_simp; all_goals with_reducible rfl)
    try simp only [Act.put, List.getElem_toArray, List.getElem_cons_succ, List.getElem_cons_zero, List.setIfInBounds_toArray, List.set_cons_zero, List.set_cons_succ]
    refine wpAnyH_take (i := 11) (v := ?v11) rfl (by kernel_rfl) (by kernel_rfl) (by kernel_rfl) (fun _ _ _ h => h) (Or.inl ⟨by kernel_rfl, ?hy11⟩) (by assumption) ?rest11
    case hy11 => (intro w hSw; (try dsimp only at hSw); go_simp; all_goals with_reducible rfl)
    try simp only [Act.put, List.getElem_toArray, List.getElem_cons_succ, List.getElem_cons_zero, List.setIfInBounds_toArray, List.set_cons_zero, List.set_cons_succ]
    refine wpAnyH_take (i := 12) (v := ?v12) rfl (by kernel_rfl) (by kernel_rfl) (by kernel_rfl) (fun _ _ _ h => h) (Or.inl ⟨by kernel_rfl, ?hy12⟩) (by assumption) ?rest12
    case hy12 => (intro w hSw; (try dsimp only at hSw); go_simp; all_goals with_reducible rfl)
    try simp only [Act.put, List.getElem_toArray, List.getElem_cons_succ, List.getElem_cons_zero, List.setIfInBounds_toArray, List.set_cons_zero, List.set_cons_succ]
    refine wpAnyH_take (i := 13) (v := ?v13) rfl (by kernel_rfl) (by kernel_rfl) (by kernel_rfl) (fun _ _ _ h => h) (Or.inl ⟨by kernel_rfl, ?hy13⟩) (by assumption) ?rest13
    case hy13 => (intro w hSw; (try dsimp only at hSw); go_simp; all_goals with_reducible rfl)
    try simp only [Act.put, List.getElem_toArray, List.getElem_cons_succ, List.getElem_cons_zero, List.setIfInBounds_toArray, List.set_cons_zero, List.set_cons_succ]
    refine wpAnyH_take (i := 14) (v := ?v14) rfl (by kernel_rfl) (by kernel_rfl) (by kernel_rfl) (fun _ _ _ h => h) (Or.inl ⟨by kernel_rfl, ?hy14⟩) (by assumption) ?rest14
    case hy14 => (intro w hSw; (try dsimp only at hSw); go_simp; all_goals with_reducible rfl)
    try simp only [Act.put, List.getElem_toArray, List.getElem_cons_succ, List.getElem_cons_zero, List.setIfInBounds_toArray, List.set_cons_zero, List.set_cons_succ]
    refine wpAnyH_take (i := 15) (v := ?v15) rfl (by kernel_rfl) (by kernel_rfl) (by kernel_rfl) (fun _ _ _ h => h) (Or.inl ⟨by kernel_rfl, ?hy15⟩) (by assumption) ?rest15
    case hy15 => (intro w hSw; (try dsimp only at hSw); go_simp; all_goals with_reducible rfl)
    try simp only [Act.put, List.getElem_toArray, List.getElem_cons_succ, List.getElem_cons_zero, List.setIfInBounds_toArray, List.set_cons_zero, List.set_cons_succ]
    refine wpAnyH_take (i := 16) (v := ?v16) rfl (by kernel_rfl) (by kernel_rfl) (by kernel_rfl) (fun _ _ _ h => h) (Or.inl ⟨by kernel_rfl, ?hy16⟩) (by assumption) ?rest16
    case hy16 => (intro w hSw; (try dsimp only at hSw); go_simp; all_goals with_reducible rfl)
    try simp only [Act.put, List.getElem_toArray, List.getElem_cons_succ, List.getElem_cons_zero, List.setIfInBounds_toArray, List.set_cons_zero, List.set_cons_succ]
    refine wpAnyH_take (i := 17) (v := ?v17) rfl (by kernel_rfl) (by kernel_rfl) (by kernel_rfl) (fun _ _ _ h => h) (Or.inl ⟨by kernel_rfl, ?hy17⟩) (by assumption) ?rest17
    case hy17 => (intro w hSw; (try dsimp only at hSw); go_simp; all_goals with_reducible rfl)
    try simp only [Act.put, List.getElem_toArray, List.getElem_cons_succ, List.getElem_cons_zero, List.setIfInBounds_toArray, List.set_cons_zero, List.set_cons_succ]
    refine wpAnyH_take (i := 18) (v := ?v18) rfl (by kernel_rfl) (by kernel_rfl) (by kernel_rfl) (fun _ _ _ h => h) (Or.inl ⟨by kernel_rfl, ?hy18⟩) (by assumption) ?rest18
    case hy18 => (intro w hSw; (try dsimp only at hSw); go_simp; all_goals with_reducible rfl)
    try simp only [Act.put, List.getElem_toArray, List.getElem_cons_succ, List.getElem_cons_zero, List.setIfInBounds_toArray, List.set_cons_zero, List.set_cons_succ]
    refine wpAnyH_ready (rs := [19]) (by kernel_rfl) (by simp) ?_
    refine AllReadyH.cons rfl (fun K hK => ?_) AllReadyH.nil
    go_simp
    refine (lSame _ _ _ _ w7 (Q0.out.tchNil t7) (Q1.out.tchNil t7)).mono ?_; rintro e w8 ⟨rfl, rfl⟩; rw [decide_eq_true (rfl : _ = _)]
    dsimp only
    refine hK.out _ _ ?_ (fun hHeld => ?_)
    focus (refine KA.out _ ?_; (repeat (first | exact t8 | exact t7 | exact Tch.refl _ _ | exact Tch.drewN W6 1 | refine Tch.trans ?_ (Tch.alloc _ _) | refine Tch.trans ?_ (Tch.drewN _ 1))))
    clear hK K
    try simp only [Act.put, List.getElem_toArray, List.getElem_cons_succ, List.getElem_cons_zero, List.setIfInBounds_toArray, List.set_cons_zero, List.set_cons_succ]
    refine wpAnyH_take (i := 20) (v := ?v19) rfl (by kernel_rfl) (by kernel_rfl) (by kernel_rfl) (fun _ _ _ h => h) (Or.inl ⟨by kernel_rfl, ?hy19⟩) (by assumption) ?rest19
    case hy19 => (intro w hSw; (try dsimp only at hSw); go_simp; all_goals with_reducible rfl)
    try simp only [Act.put, List.getElem_toArray, List.getElem_cons_succ, List.getElem_cons_zero, List.setIfInBounds_toArray, List.set_cons_zero, List.set_cons_succ]
    refine wpAnyH_take (i := 21) (v := ?v20) rfl (by kernel_rfl) (by kernel_rfl) (by kernel_rfl) (fun _ _ _ h => h) (Or.inl ⟨by kernel_rfl, ?hy20⟩) (by assumption) ?rest20
    case hy20 => (intro w hSw; (try dsimp only at hSw); go_simp; all_goals with_reducible rfl)
    try simp only [Act.put, List.getElem_toArray, List.getElem_cons_succ, List.getElem_cons_zero, List.setIfInBounds_toArray, List.set_cons_zero, List.set_cons_succ]
    refine wpAnyH_take (i := 22) (v := ?v21) rfl (by kernel_rfl) (by kernel_rfl) (by kernel_rfl) (fun _ _ _ h => h) (Or.inl ⟨by kernel_rfl, ?hy21⟩) (by assumption) ?rest21
    case hy21 => (intro w hSw; (try dsimp only at hSw); go_simp; all_goals with_reducible rfl)
    try simp only [Act.put, List.getElem_toArray, List.getElem_cons_succ, List.getElem_cons_zero, List.setIfInBounds_toArray, List.set_cons_zero, List.set_cons_succ]
    refine wpAnyH_take (i := 23) (v := ?v22) rfl (by kernel_rfl) (by kernel_rfl) (by kernel_rfl) (fun _ _ _ h => h) (Or.inl ⟨by kernel_rfl, ?hy22⟩) (by assumption) ?rest22
    case hy22 => (intro w hSw; (try dsimp only at hSw); go_simp; all_goals with_reducible rfl)
    try simp only [Act.put, List.getElem_toArray, List.getElem_cons_succ, List.getElem_cons_zero, List.setIfInBounds_toArray, List.set_cons_zero, List.set_cons_succ]
    refine wpAnyH_take (i := 24) (v := ?v23) rfl (by kernel_rfl) (by kernel_rfl) (by kernel_rfl) (fun _ _ _ h => h) (Or.inl ⟨by kernel_rfl, ?hy23⟩) (by assumption) ?rest23
    case hy23 => (intro w hSw; (try dsimp only at hSw); go_simp; all_goals with_reducible rfl)
    try simp only [Act.put, List.getElem_toArray, List.getElem_cons_succ, List.getElem_cons_zero, List.setIfInBounds_toArray, List.set_cons_zero, List.set_cons_succ]
    refine wpAnyH_take (i := 25) (v := ?v24) rfl (by kernel_rfl) (by kernel_rfl) (by kernel_rfl) (fun _ _ _ h => h) (Or.inl ⟨by kernel_rfl, ?hy24⟩) (by assumption) ?rest24
    case hy24 => (intro w hSw; (try dsimp only at hSw); go_simp; all_goals with_reducible rfl)
    try simp only [Act.put, List.getElem_toArray, List.getElem_cons_succ, List.getElem_cons_zero, List.setIfInBounds_toArray, List.set_cons_zero, List.set_cons_succ]
    refine wpAnyH_take (i := 26) (v := ?v25) rfl (by kernel_rfl) (by kernel_rfl) (by kernel_rfl) (fun _ _ _ h => h) (Or.inl ⟨by kernel_rfl, ?hy25⟩) (by assumption) ?rest25
    case hy25 => (intro w hSw; (try dsimp only at hSw); go_simp; all_goals with_reducible rfl)
    try simp only [Act.put, List.getElem_toArray, List.getElem_cons_succ, List.getElem_cons_zero, List.setIfInBounds_toArray, List.set_cons_zero, List.set_cons_succ]
    refine wpAnyH_take (i := 27) (v := ?v26) rfl (by kernel_rfl) (by kernel_rfl) (by kernel_rfl) (fun _ _ _ h => h) (Or.inl ⟨by kernel_rfl, ?hy26⟩) (by assumption) ?rest26
    case hy26 => (intro w hSw; (try dsimp only at hSw); go_simp; all_goals with_reducible rfl)
    try simp only [Act.put, List.getElem_toArray, List.getElem_cons_succ, List.getElem_cons_zero, List.setIfInBounds_toArray, List.set_cons_zero, List.set_cons_succ]
    refine wpAnyH_ready (rs := [28]) (by kernel_rfl) (by simp) ?_
    refine AllReadyH.cons rfl (fun K hK => ?_) AllReadyH.nil
    go_simp
    refine (lSame _ _ _ _ w7 (Q0.out.tchNil t7) (Q3.out.tchNil t7)).mono ?_; rintro e w8 ⟨rfl, rfl⟩; rw [decide_eq_true (rfl : _ = _)]
    dsimp only
    refine hK.out _ _ ?_ (fun hHeld => ?_)
    focus (refine KA.out _ ?_; (repeat (first | exact t8 | exact t7 | exact Tch.refl _ _ | exact Tch.drewN W6 1 | refine Tch.trans ?_ (Tch.alloc _ _) | refine Tch.trans ?_ (Tch.drewN _ 1))))
    clear hK K
    try simp only [Act.put, List.getElem_toArray, List.getElem_cons_succ, List.getElem_cons_zero, List.setIfInBounds_toArray, List.set_cons_zero, List.set_cons_succ]
    refine wpAnyH_take (i := 29) (v := ?v27) rfl (by kernel_rfl) (by kernel_rfl) (by kernel_rfl) (fun _ _ _ h => h) (Or.inl ⟨by kernel_rfl, ?hy27⟩) (by assumption) ?rest27
    case hy27 => (intro w hSw; (try dsimp only at hSw); go_simp; all_goals with_reducible rfl)
    try simp only [Act.put, List.getElem_toArray, List.getElem_cons_succ, List.getElem_cons_zero, List.setIfInBounds_toArray, List.set_cons_zero, List.set_cons_succ]
    refine wpAnyH_take (i := 30) (v := ?v28) rfl (by kernel_rfl) (by kernel_rfl) (by kernel_rfl) (fun _ _ _ h => h) (Or.inl ⟨by kernel_rfl, ?hy28⟩) (by assumption) ?rest28
    case hy28 => (intro w hSw; (try dsimp only at hSw); go_simp; all_goals with_reducible rfl)
    try simp only [Act.put, List.getElem_toArray, List.getElem_cons_succ, List.getElem_cons_zero, List.setIfInBounds_toArray, List.set_cons_zero, List.set_cons_succ]
    refine wpAnyH_take (i := 31) (v := ?v29) rfl (by kernel_rfl) (by kernel_rfl) (by kernel_rfl) (fun _ _ _ h => h) (Or.inl ⟨by kernel_rfl, ?hy29⟩) (by assumption) ?rest29
    case hy29 => (intro w hSw; (try dsimp only at hSw); go_simp; all_goals with_reducible rfl)
    try simp only [Act.put, List.getElem_toArray, List.getElem_cons_succ, List.getElem_cons_zero, List.setIfInBounds_toArray, List.set_cons_zero, List.set_cons_succ]
    refine wpAnyH_take (i := 32) (v := ?v30) rfl (by kernel_rfl) (by kernel_rfl) (by kernel_rfl) (fun _ _ _ h => h) (Or.inl ⟨by kernel_rfl, ?hy30⟩) (by assumption) ?rest30
    case hy30 => (intro w hSw; (try dsimp only at hSw); go_simp; all_goals with_reducible rfl)
    try simp only [Act.put, List.getElem_toArray, List.getElem_cons_succ, List.getElem_cons_zero, List.setIfInBounds_toArray, List.set_cons_zero, List.set_cons_succ]
    refine wpAnyH_take (i := 33) (v := ?v31) rfl (by kernel_rfl) (by kernel_rfl) (by kernel_rfl) (fun _ _ _ h => h) (Or.inl ⟨by kernel_rfl, ?hy31⟩) (by assumption) ?rest31
    case hy31 => (intro w hSw; (try dsimp only at hSw); go_simp; all_goals with_reducible rfl)
    try simp only [Act.put, List.getElem_toArray, List.getElem_cons_succ, List.getElem_cons_zero, List.setIfInBounds_toArray, List.set_cons_zero, List.set_cons_succ]
    refine wpAnyH_take (i := 34) (v := ?v32) rfl (by kernel_rfl) (by kernel_rfl) (by kernel_rfl) (fun _ _ _ h => h) (Or.inl ⟨by kernel_rfl, ?hy32⟩) (by assumption) ?rest32
    case hy32 => (intro w hSw; (try dsimp only at hSw); go_simp; all_goals with_reducible rfl)
    try simp only [Act.put, List.getElem_toArray, List.getElem_cons_succ, List.getElem_cons_zero, List.setIfInBounds_toArray, List.set_cons_zero, List.set_cons_succ]
    refine wpAnyH_take (i := 35) (v := ?v33) rfl (by kernel_rfl) (by kernel_rfl) (by kernel_rfl) (fun _ _ _ h => h) (Or.inl ⟨by kernel_rfl, ?hy33⟩) (by assumption) ?rest33
    case hy33 => (intro w hSw; (try dsimp only at hSw); go_simp; all_goals with_reducible rfl)
    try simp only [Act.put, List.getElem_toArray, List.getElem_cons_succ, List.getElem_cons_zero, List.setIfInBounds_toArray, List.set_cons_zero, List.set_cons_succ]
    refine wpAnyH_take (i := 36) (v := ?v34) rfl (by kernel_rfl) (by kernel_rfl) (by kernel_rfl) (fun _ _ _ h => h) (Or.inl ⟨by kernel_rfl, ?hy34⟩) (by assumption) ?rest34
    case hy34 => (intro w hSw; (try dsimp only at hSw); go_simp; all_goals with_reducible rfl)
    try simp only [Act.put, List.getElem_toArray, List.getElem_cons_succ, List.getElem_cons_zero, List.setIfInBounds_toArray, List.set_cons_zero, List.set_cons_succ]
    refine wpAnyH_take (i := 37) (v := ?v35) rfl (by kernel_rfl) (by kernel_rfl) (by kernel_rfl) (fun _ _ _ h => h) (Or.inl ⟨by kernel_rfl, ?hy35⟩) (by assumption) ?rest35
    case hy35 => (intro w hSw; (try dsimp only at hSw); go_simp; all_goals with_reducible rfl)
    try simp only [Act.put, List.getElem_toArray, List.getElem_cons_succ, List.getElem_cons_zero, List.setIfInBounds_toArray, List.set_cons_zero, List.set_cons_succ]
    refine wpAnyH_ready (rs := [38]) (by kernel_rfl) (by simp) ?_
    refine AllReadyH.cons rfl (fun K hK => ?_) AllReadyH.nil
    go_simp
    refine hK.out _ _ ?_ (fun hHeld => ?_)
    focus (refine KA.out _ ?_; (repeat (first | exact t8 | exact t7 | exact Tch.refl _ _ | exact Tch.drewN W6 1 | refine Tch.trans ?_ (Tch.alloc _ _) | refine Tch.trans ?_ (Tch.drewN _ 1))))
    clear hK K
    try simp only [Act.put, List.getElem_toArray, List.getElem_cons_succ, List.getElem_cons_zero, List.setIfInBounds_toArray, List.set_cons_zero, List.set_cons_succ]
    refine wpAnyH_ready (rs := [39]) (by kernel_rfl) (by simp) ?_
    refine AllReadyH.cons rfl (fun K hK => ?_) AllReadyH.nil
    go_simp
    refine (iMac kt k s bl key [a, b] _ _ _ (HK.out.tch (T6.out.trans (t7.trans (Tch.alloc _ _))) (by simp)) (Rkey.out.tchNil (T6.out.trans (t7.trans (Tch.alloc _ _)))) (by have := HLEN.out; omega) (prd_two (Ra.out.tchNil (T6.out.trans t7)) (Rb.out.tchNil (T6.out.trans t7))) (by have := HLEN.out; simp; omega)).mono ?_; rintro e w8 ⟨v8, rfl, h8⟩; have t8 : Tch [] W6 w8 := (t7.trans (Tch.alloc _ _)).trans h8.out.tchNil
    dsimp only
    refine hK.out _ _ ?_ (fun hHeld => ?_)
    focus (refine KA.out _ ?_; (repeat (first | exact t8 | exact t7 | exact Tch.refl _ _ | exact Tch.drewN W6 1 | refine Tch.trans ?_ (Tch.alloc _ _) | refine Tch.trans ?_ (Tch.drewN _ 1))))
    clear hK K
    try simp only [Act.put, List.getElem_toArray, List.getElem_cons_succ, List.getElem_cons_zero, List.setIfInBounds_toArray, List.set_cons_zero, List.set_cons_succ]
    refine wpAnyH_ready (rs := [40]) (by kernel_rfl) (by simp) ?_
    refine AllReadyH.cons rfl (fun K hK => ?_) AllReadyH.nil
    go_simp
    refine (lSame _ _ _ _ w8 (Q2.out.tchNil t8) h8.out.1.rd).mono ?_; rintro e w9 ⟨rfl, rfl⟩; rw [HEQ.out]
    dsimp only
    refine hK.out _ _ ?_ (fun hHeld => ?_)
    focus (refine KA.out _ ?_; (repeat (first | exact t8 | exact t7 | exact Tch.refl _ _ | exact Tch.drewN W6 1 | refine Tch.trans ?_ (Tch.alloc _ _) | refine Tch.trans ?_ (Tch.drewN _ 1))))
    clear hK K
    try simp only [Act.put, List.getElem_toArray, List.getElem_cons_succ, List.getElem_cons_zero, List.setIfInBounds_toArray, List.set_cons_zero, List.set_cons_succ]
    refine wpAnyH_take (i := 41) (v := ?v36) rfl (by kernel_rfl) (by kernel_rfl) (by kernel_rfl) (fun _ _ _ h => h) (Or.inl ⟨by kernel_rfl, ?hy36⟩) (by assumption) ?rest36
    case hy36 => (intro w hSw; (try dsimp only at hSw); go_simp; all_goals with_reducible rfl)
    try simp only [Act.put, List.getElem_toArray, List.getElem_cons_succ, List.getElem_cons_zero, List.setIfInBounds_toArray, List.set_cons_zero, List.set_cons_succ]
    refine wpAnyH_take (i := 42) (v := ?v37) rfl (by kernel_rfl) (by kernel_rfl) (by kernel_rfl) (fun _ _ _ h => h) (Or.inl ⟨by kernel_rfl, ?hy37⟩) (by assumption) ?rest37
    case hy37 => (intro w hSw; (try dsimp only at hSw); go_simp; all_goals with_reducible rfl)
    try simp only [Act.put, List.getElem_toArray, List.getElem_cons_succ, List.getElem_cons_zero, List.setIfInBounds_toArray, List.set_cons_zero, List.set_cons_succ]
    refine wpAnyH_done (by kernel_rfl) ?_ _
    go_wp2
    refine J4.out _ _ ?_
    go_wp2
    go_ret
    exact ⟨rfl, T6.out.trans t8⟩
end Go.Proofs.Ytgomodhhomekpaa
