/-
  spec.Hash whole; FnSum's walk.
-/
import Derived.Test.YtgomodhhomekpaaDoorM4
import Derived.Test.YtgomodhhomekpaaDoorZe
import Derived.Test.YtgomodhhomekpaaDoorZf
import Derived.Test.YtgomodhhomekpaaDoorSs
import Derived.Test.YtgomodhhomekpaaDoorSl
namespace Go.Proofs.YtgomodhhomekpaaDoor
open Go.RowKit Pu Ar
theorem own_row {w : World} {g : Nat} {l : By} (h : Row w g 5 (l.map vb)) (hm : l.length ≤ maxLen) : Own w (.slice (some ⟨g, 0, none⟩) l.length l.length) l :=
  ⟨by simp, .inr ⟨g, l.length, (l.map vb).toArray, rfl, Nat.zero_le _, h, Nat.le_refl _, hm, by simp, by simp only [Nat.mul_one]; exact List.take_of_length_le (by simp)⟩⟩
theorem szOf_ok (s bl : Int) : 1 ≤ szOf s bl ∧ szOf s bl ≤ 16 := by
  have h := kindOf_ok [] 0 s bl
  rw [bad_kind [] 0 s bl (by decide)] at h
  exact ⟨h.1, h.2.1⟩
set_option maxHeartbeats 1000000 in
set_option maxRecDepth 100000 in
/-- spec.Hash. -/
theorem sHashD (k s bl : Int) (l : By) (v : Value) (w : World) (hv : Rd w v l) (hl : l.length ≤ 2147483) :
    Calls Tryd.prog 8 #[.agg #[.int .i64 k, .int .i64 s, .int .i64 bl], v] w fun e w' => ∃ v', e = .returned v' ∧ Hid (Grew w w' (.slice none 0 0) v' ((kindOf kc k s bl).hash l)) := by
  obtain ⟨q, cap, hve⟩ := rd_ex hv
  have HV := Lib.hid hv
  have HL := Lib.hid hl
  have ill : (l.length : Int) ≤ 2147483 := by omega
  clear hv hl
  subst hve
  go_enter Tryd.func8, Tryd.ntmps8
  refine wp_seq_k (fun K0 k0 => ?_)
  have J0 := Lib.hid k0
  clear k0
  go_wp2
  generalize hW1 : World.alloc _ _ = W1
  have R1 : Row W1 w.heap.size 23 [.int .i64 k, .int .i64 s, .int .i64 bl] := by rw [← hW1]; exact Row.new w 23 _
  have T1 : Hid (Tch [] w W1) := by rw [← hW1]; exact Tch.alloc _ _
  have c0 : W1.cell? ⟨w.heap.size, 0, none⟩ = some (.int .i64 k) := by rw [R1.cell]; rfl
  have c1 : W1.cell? ⟨w.heap.size, 1, none⟩ = some (.int .i64 s) := by rw [R1.cell]; rfl
  have c2 : W1.cell? ⟨w.heap.size, 2, none⟩ = some (.int .i64 bl) := by rw [R1.cell]; rfl
  clear hW1 R1
  obtain ⟨c, hc⟩ : ∃ c, c = w.heap.size := ⟨_, rfl⟩
  rw [← hc] at c0 c1 c2 ⊢
  clear hc
  by_cases hk : k = 1
  · subst hk
    refine J0.out _ _ ?_
    refine wp_seq_k (fun K1 k1 => ?_)
    have J1 := Lib.hid k1
    clear k1 J0
    go_wp2_with (fail)
    refine (sSha l _ W1 (HV.out.tchNil T1.out) HL.out).mono ?_
    rintro e W2 ⟨v2, rfl, h2⟩
    go_wp2
    go_ret
    rw [kind_sha]
    refine ⟨v2, rfl, h2.out.1, T1.out.trans h2.out.2.1, ?_⟩
    rcases h2.out.2.2 with h | ⟨g, h, hg⟩
    · exact .inl h
    · exact .inr ⟨g, h, Nat.le_trans T1.out.size hg⟩
  · have hkb : (k == 1) = false := by simpa using hk
    have hsk : szK k s bl = szOf s bl := by unfold szK; rw [if_neg hk]
    have HSK := Lib.hid hsk
    obtain ⟨hz1, hz2⟩ := szOf_ok s bl
    have HKD : Hid (kindOf kc k s bl = .own (szOf s bl) (blOf s bl)) := bad_kind kc k s bl hk
    clear hsk
    refine J0.out _ _ ?_
    refine wp_seq_k (fun K1 k1 => ?_)
    have J1 := Lib.hid k1
    clear k1 J0
    go_wp2
    refine J1.out _ _ ?_
    refine wp_seq_k (fun K2 k2 => ?_)
    have J2 := Lib.hid k2
    clear k2 J1
    go_wp2_with (fail)
    refine (sSizes k s bl W1).mono ?_
    rintro e W2 ⟨rfl, h2⟩
    rw [HSK.out]
    obtain ⟨z, hz⟩ : ∃ z, z = szOf s bl := ⟨_, rfl⟩
    rw [← hz] at hz1 hz2 HKD ⊢
    have iz1 : (1 : Int) ≤ z := by omega
    have iz2 : (z : Int) ≤ 16 := by omega
    have HZ1 := Lib.hid hz1
    have HZ2 := Lib.hid hz2
    have T2 : Hid (Tch [] w W2) := T1.out.trans h2.out
    clear hz hz1 hz2 h2 c0 c1 c2 HSK
    go_wp2
    refine J2.out _ _ ?_
    refine wp_seq_k (fun K3 k3 => ?_)
    have J3 := Lib.hid k3
    clear k3 J2
    obtain ⟨W3, hW3⟩ : ∃ W3, W3 = W2.alloc (.cells (List.replicate z (Value.int .u8 0)).toArray 5) := ⟨_, rfl⟩
    have hmk : (Instr.makeSlice 24 (.int .i64 (z : Int)) (.int .i64 (z : Int))).run Tryd.prog W2 = .ok (.slice (some ⟨W2.heap.size, 0, none⟩) z z) W3 := by
      rw [hW3]; exact run_make_by z z (Nat.le_refl _) (by omega) W2
    have R3 : Hid (Row W3 W2.heap.size 5 (List.replicate z (.int .u8 0))) := by rw [hW3]; exact Row.new W2 5 _
    have T3 : Hid (Tch [] w W3) := by rw [hW3]; exact T2.out.trans (Tch.alloc _ _)
    clear hW3
    go_wp2
    clear hmk
    obtain ⟨g, hg⟩ : ∃ g, g = W2.heap.size := ⟨_, rfl⟩
    have HG : Hid (w.heap.size ≤ g) := by rw [hg]; exact T2.out.size
    rw [← hg] at R3 ⊢
    clear hg T2
    have new : Hid (∀ i ∈ [g], i ∈ ([] : List Nat) ∨ w.heap.size ≤ i) := by intro i hi; right; rw [List.mem_singleton.1 hi]; exact HG.out
    have HOFF : Hid (∀ W, Tch [] w W → Rd W (.slice q l.length cap) l) := fun W k => HV.out.tchNil k
    refine J3.out _ _ ?_
    refine wp_seq_k (fun K4 k4 => ?_)
    have J4 := Lib.hid k4
    clear k4 J3
    refine wp_seq_k (fun K14 k14 => ?_)
    have J14 := Lib.hid k14
    clear k14
    go_wp2
    refine J14.out _ _ (wp_block ?_)
    refine hl1Loop _ W3 ⟨rfl, rfl⟩ _ g z HZ2.out R3.out rfl rfl rfl ?_
    rintro a4 W4 ⟨f4, sm4, h4⟩
    refine J4.out _ _ ?_
    have T4 : Hid (Tch [] w W4) := T3.out.new h4.out.2 new.out
    have s1 : G a4 1 = .slice q l.length cap := sm4.get 1 rfl
    have s5 : G a4 5 = .int .i64 (z : Int) := sm4.get 5 rfl
    have s7 : G a4 7 = .slice (some ⟨g, 0, none⟩) z z := sm4.get 7 rfl
    have R4 := Lib.hid h4.out.1
    rw [lit89 a4 f4]
    simp only [s1, s5, s7]
    clear f4 sm4 s1 s5 s7 h4 R3 T3
    refine wp_seq_k (fun K5 k5 => ?_)
    have J5 := Lib.hid k5
    clear k5
    refine wp_seq_k (fun K15 k15 => ?_)
    have J15 := Lib.hid k15
    clear k15
    go_wp2
    refine J15.out _ _ (wp_block ?_)
    refine hl2Loop _ W4 ⟨rfl, rfl⟩ _ g z l _ HZ1.out HZ2.out R4.out (HOFF.out W4 T4.out) ?_ (by have := HL.out; omega) rfl rfl rfl rfl rfl ?_
    · intro hne b hb hm
      obtain ⟨p', c', e, _, _, h⟩ := HV.out
      rcases h with h | ⟨b', o', rfl, h⟩
      · exact hne h
      · simp only [Value.slice.injEq] at e
        obtain ⟨rfl, _, _⟩ := e
        simp only [Value.ownBlock, Option.some.injEq] at hb
        have hlt : b' < w.heap.size := cell_lt (h 0 (l.getD 0 0) (by
          have : 0 < l.length := List.length_pos_iff.2 hne
          rw [List.getD_eq_getElem?_getD, List.getElem?_eq_getElem this]; rfl))
        have := HG.out
        have : b = g := List.mem_singleton.1 hm
        omega
    rintro a5 W5 ⟨f5, sm5, h5⟩
    refine J5.out _ _ ?_
    have T5 : Hid (Tch [] w W5) := T4.out.new h5.out.2 new.out
    have s1 : G a5 1 = .slice q l.length cap := sm5.get 1 rfl
    have s7 : G a5 7 = .slice (some ⟨g, 0, none⟩) z z := sm5.get 7 rfl
    have R5 := Lib.hid h5.out.1
    rw [lit89 a5 f5]
    simp only [s1, s7]
    clear f5 sm5 s1 s7 h5 R4 T4
    refine wp_seq_k (fun K6 k6 => ?_)
    have J6 := Lib.hid k6
    clear k6
    refine wp_seq_k (fun K16 k16 => ?_)
    have J16 := Lib.hid k16
    clear k16
    go_wp2
    refine J16.out _ _ (wp_block ?_)
    refine hl3Loop _ W5 ⟨rfl, rfl⟩ _ g z l.length cap q (ownState z l) HZ2.out (ownState_length _ _) (by have := HL.out; omega) R5.out rfl rfl rfl rfl ?_
    rintro a6 W6 ⟨f6, sm6, h6⟩
    refine J6.out _ _ ?_
    have T6 : Hid (Tch [] w W6) := T5.out.new h6.out.2 new.out
    have s7 : G a6 7 = .slice (some ⟨g, 0, none⟩) z z := sm6.get 7 rfl
    have R6 := Lib.hid h6.out.1
    rw [lit89 a6 f6]
    simp only [s7]
    clear f6 sm6 s7 h6 R5 T5
    refine wp_seq_k (fun K7 k7 => ?_)
    have J7 := Lib.hid k7
    clear k7
    go_wp2
    refine J7.out _ _ ?_
    go_wp2
    go_ret
    refine ⟨_, rfl, ?_, T6.out, .inr ⟨g, rfl, HG.out⟩⟩
    rw [HKD.out]
    have hlen : ((ownState z l).map (· + UInt8.ofNat l.length)).length = z := by rw [List.length_map, ownState_length]
    have := own_row R6.out (by rw [hlen]; unfold maxLen; have := HZ2.out; omega)
    rw [hlen] at this
    exact this
set_option linter.unusedSimpArgs false in
set_option maxHeartbeats 2000000 in
set_option maxRecDepth 100000 in
/-- FnSum. -/
theorem fnSum (k s bl : Int) (data : By) (dataV : Value) (w : World) (hK : KIs w kc) (hdata : Rd w dataV data) :
    Calls Tryd.prog 3 #[.agg #[.int .i64 k, .int .i64 s, .int .i64 bl], dataV] w fun e w' => e = .returned (.bool true) ∧ Hid (Tch [] w w') := by
  obtain ⟨datap, datac, rfl⟩ := rd_ex hdata
  have Rdata := Lib.hid hdata
  have HK := Lib.hid hK
  clear hK hdata
  go_enter Tryd.func3, Tryd.ntmps3
  refine wp_seq_k (fun K0 k0 => ?_)
  have J0 := Lib.hid k0
  clear k0
  go_wp2
  generalize hW1 : World.alloc _ _ = W1
  have R1 : Row W1 w.heap.size 23 [.int .i64 k, .int .i64 s, .int .i64 bl] := by rw [← hW1]; exact Row.new w 23 _
  have T1 : Hid (Tch [] w W1) := by rw [← hW1]; exact Tch.alloc _ _
  have c0 : W1.cell? ⟨w.heap.size, 0, none⟩ = some (.int .i64 k) := by rw [R1.cell]; rfl
  have c1 : W1.cell? ⟨w.heap.size, 1, none⟩ = some (.int .i64 s) := by rw [R1.cell]; rfl
  have c2 : W1.cell? ⟨w.heap.size, 2, none⟩ = some (.int .i64 bl) := by rw [R1.cell]; rfl
  clear hW1 R1
  obtain ⟨c, hc⟩ : ∃ c, c = w.heap.size := ⟨_, rfl⟩
  rw [← hc] at c0 c1 c2 ⊢
  clear hc
  have KA : Hid (∀ w', Tch [] W1 w' → (w'.cell? ⟨c, 0, none⟩ = some (.int .i64 k) ∧ w'.cell? ⟨c, 1, none⟩ = some (.int .i64 s) ∧ w'.cell? ⟨c, 2, none⟩ = some (.int .i64 bl))) := fun w' h => ⟨h.cell c0 (by simp), h.cell c1 (by simp), h.cell c2 (by simp)⟩
  refine J0.out _ _ ?_
  refine wp_seq_k (fun K1 k1 => ?_)
  have J1 := Lib.hid k1
  clear k1 J0
  by_cases zdata : 2147483647 < (data.length : Int)
  · go_wp2
    go_ret
    exact ⟨rfl, T1.out⟩
  go_wp2
  refine J1.out _ _ ?_
  refine wp_seq_k (fun K2 k2 => ?_)
  have J2 := Lib.hid k2
  clear k2 J1
  have HP : Hid (PRd (World.alloc (W1.drewN 1) (.cells #[.slice datap data.length datac] 24)) (.slice (some ⟨(W1.drewN 1).heap.size, 0, none⟩) 1 1) [data]) := prd_one (Rdata.out.tchNil (T1.out.trans (Tch.drewN W1 1)))
  have TP : Hid (Tch [] W1 (World.alloc (W1.drewN 1) (.cells #[.slice datap data.length datac] 24))) := (Tch.drewN W1 1).trans (Tch.alloc _ _)
  have HLS : Hid (∀ p ∈ [data], p.length ≤ 2147483647) := by
    intro p hp
    rw [List.mem_singleton.1 hp]
    omega
  by_cases hlong : 1048576 < [data].flatten.length
  · have HLG : Hid (decide (1048576 < [data].flatten.length) = true) := decide_eq_true hlong
    clear hlong
    refine wp_region_any (by kernel_rfl) ?_
    change wpAny _ _ _ _ _ _ _ (World.drew _)
    refine wpAny_take (i := 0) (v := ?v1) rfl (by kernel_rfl) (by kernel_rfl) (by kernel_rfl) (fun _ _ _ h => h) (Or.inl ⟨by kernel_rfl, ?hy1⟩) ?rest1
    case hy1 => (intro w; go_simp; all_goals with_reducible rfl)
    try simp only [Act.put, List.getElem_toArray, List.getElem_cons_succ, List.getElem_cons_zero, List.setIfInBounds_toArray, List.set_cons_zero, List.set_cons_succ]
    refine wpAny_ready (rs := [1]) (by kernel_rfl) (by simp) ?_
    refine AllReady.cons rfl (fun K hK => ?_) AllReady.nil
    go_simp
    refine hK _ _ ?_
    clear hK K
    try simp only [Act.put, List.getElem_toArray, List.getElem_cons_succ, List.getElem_cons_zero, List.setIfInBounds_toArray, List.set_cons_zero, List.set_cons_succ]
    refine wpAny_ready (rs := [2]) (by kernel_rfl) (by simp) ?_
    refine AllReady.cons rfl (fun K hK => ?_) AllReady.nil
    go_simp
    refine (lLong [data] _ _ HP.out HLS.out).mono ?_; rintro e w2 ⟨rfl, hw2⟩; have t2 : Tch [] W1 w2 := (by rw [← hw2]; exact TP.out); rw [HLG.out]
    dsimp only
    refine hK _ _ ?_
    clear hK K
    try simp only [Act.put, List.getElem_toArray, List.getElem_cons_succ, List.getElem_cons_zero, List.setIfInBounds_toArray, List.set_cons_zero, List.set_cons_succ]
    refine wpAny_take (i := 3) (v := ?v2) rfl (by kernel_rfl) (by kernel_rfl) (by kernel_rfl) (fun _ _ _ h => h) (Or.inl ⟨by kernel_rfl, ?hy2⟩) ?rest2
    case hy2 => (intro w; go_simp; all_goals with_reducible rfl)
    try simp only [Act.put, List.getElem_toArray, List.getElem_cons_succ, List.getElem_cons_zero, List.setIfInBounds_toArray, List.set_cons_zero, List.set_cons_succ]
    refine wpAny_take (i := 4) (v := undef) rfl (by kernel_rfl) (by kernel_rfl) (by kernel_rfl) (fun _ _ _ h => h) (Or.inr ⟨by kernel_rfl, rfl⟩) ?_
    try simp only [Act.put, List.getElem_toArray, List.getElem_cons_succ, List.getElem_cons_zero, List.setIfInBounds_toArray, List.set_cons_zero, List.set_cons_succ]
    refine wpAny_take (i := 5) (v := undef) rfl (by kernel_rfl) (by kernel_rfl) (by kernel_rfl) (fun _ _ _ h => h) (Or.inr ⟨by kernel_rfl, rfl⟩) ?_
    try simp only [Act.put, List.getElem_toArray, List.getElem_cons_succ, List.getElem_cons_zero, List.setIfInBounds_toArray, List.set_cons_zero, List.set_cons_succ]
    refine wpAny_take (i := 6) (v := undef) rfl (by kernel_rfl) (by kernel_rfl) (by kernel_rfl) (fun _ _ _ h => h) (Or.inr ⟨by kernel_rfl, rfl⟩) ?_
    try simp only [Act.put, List.getElem_toArray, List.getElem_cons_succ, List.getElem_cons_zero, List.setIfInBounds_toArray, List.set_cons_zero, List.set_cons_succ]
    refine wpAny_take (i := 7) (v := undef) rfl (by kernel_rfl) (by kernel_rfl) (by kernel_rfl) (fun _ _ _ h => h) (Or.inr ⟨by kernel_rfl, rfl⟩) ?_
    try simp only [Act.put, List.getElem_toArray, List.getElem_cons_succ, List.getElem_cons_zero, List.setIfInBounds_toArray, List.set_cons_zero, List.set_cons_succ]
    refine wpAny_take (i := 8) (v := undef) rfl (by kernel_rfl) (by kernel_rfl) (by kernel_rfl) (fun _ _ _ h => h) (Or.inr ⟨by kernel_rfl, rfl⟩) ?_
    try simp only [Act.put, List.getElem_toArray, List.getElem_cons_succ, List.getElem_cons_zero, List.setIfInBounds_toArray, List.set_cons_zero, List.set_cons_succ]
    refine wpAny_take (i := 9) (v := undef) rfl (by kernel_rfl) (by kernel_rfl) (by kernel_rfl) (fun _ _ _ h => h) (Or.inr ⟨by kernel_rfl, rfl⟩) ?_
    try simp only [Act.put, List.getElem_toArray, List.getElem_cons_succ, List.getElem_cons_zero, List.setIfInBounds_toArray, List.set_cons_zero, List.set_cons_succ]
    refine wpAny_take (i := 10) (v := undef) rfl (by kernel_rfl) (by kernel_rfl) (by kernel_rfl) (fun _ _ _ h => h) (Or.inr ⟨by kernel_rfl, rfl⟩) ?_
    try simp only [Act.put, List.getElem_toArray, List.getElem_cons_succ, List.getElem_cons_zero, List.setIfInBounds_toArray, List.set_cons_zero, List.set_cons_succ]
    refine wpAny_take (i := 11) (v := ?v3) rfl (by kernel_rfl) (by kernel_rfl) (by kernel_rfl) (fun _ _ _ h => h) (Or.inl ⟨by kernel_rfl, ?hy3⟩) ?rest3
    case hy3 => (intro w; go_simp; all_goals with_reducible rfl)
    try simp only [Act.put, List.getElem_toArray, List.getElem_cons_succ, List.getElem_cons_zero, List.setIfInBounds_toArray, List.set_cons_zero, List.set_cons_succ]
    refine wpAny_take (i := 12) (v := ?v4) rfl (by kernel_rfl) (by kernel_rfl) (by kernel_rfl) (fun _ _ _ h => h) (Or.inl ⟨by kernel_rfl, ?hy4⟩) ?rest4
    case hy4 => (intro w; go_simp; all_goals with_reducible rfl)
    try simp only [Act.put, List.getElem_toArray, List.getElem_cons_succ, List.getElem_cons_zero, List.setIfInBounds_toArray, List.set_cons_zero, List.set_cons_succ]
    refine wpAny_done (by kernel_rfl) ?_ _
    go_wp2
    refine J2.out _ _ ?_
    go_wp2
    go_ret
    exact ⟨rfl, T1.out.trans t2⟩
  · have HLG : Hid (decide (1048576 < [data].flatten.length) = false) := decide_eq_false hlong
    have HLEN : Hid (data.length ≤ 1048576) := by
      simp only [List.flatten_cons, List.flatten_nil, List.append_nil] at hlong
      show _ ≤ _
      omega
    clear hlong
    refine wp_region_held_drew (S := (fun w' => w'.cell? ⟨c, 0, none⟩ = some (.int .i64 k) ∧ w'.cell? ⟨c, 1, none⟩ = some (.int .i64 s) ∧ w'.cell? ⟨c, 2, none⟩ = some (.int .i64 bl))) (by kernel_rfl) ?_ (fun hHeld => ?_)
    focus (refine KA.out _ ?_; first | exact t4 | exact t3 | exact t2 | exact TP.out | exact Tch.drewN W1 1)
    refine wpAnyH_take (i := 0) (v := ?v5) rfl (by kernel_rfl) (by kernel_rfl) (by kernel_rfl) (fun _ _ _ h => h) (Or.inl ⟨by kernel_rfl, ?hy5⟩) (by assumption) ?rest5
    case hy5 => (intro w hSw; (try dsimp only at hSw); go_simp; all_goals with_reducible rfl)
    try simp only [Act.put, List.getElem_toArray, List.getElem_cons_succ, List.getElem_cons_zero, List.setIfInBounds_toArray, List.set_cons_zero, List.set_cons_succ]
    refine wpAnyH_ready (rs := [1]) (by kernel_rfl) (by simp) ?_
    refine AllReadyH.cons rfl (fun K hK => ?_) AllReadyH.nil
    go_simp
    refine hK.out _ _ ?_ (fun hHeld => ?_)
    focus (refine KA.out _ ?_; first | exact t4 | exact t3 | exact t2 | exact TP.out | exact Tch.drewN W1 1)
    clear hK K
    try simp only [Act.put, List.getElem_toArray, List.getElem_cons_succ, List.getElem_cons_zero, List.setIfInBounds_toArray, List.set_cons_zero, List.set_cons_succ]
    refine wpAnyH_ready (rs := [2]) (by kernel_rfl) (by simp) ?_
    refine AllReadyH.cons rfl (fun K hK => ?_) AllReadyH.nil
    go_simp
    refine (lLong [data] _ _ HP.out HLS.out).mono ?_; rintro e w2 ⟨rfl, hw2⟩; have t2 : Tch [] W1 w2 := (by rw [← hw2]; exact TP.out); rw [HLG.out]
    dsimp only
    refine hK.out _ _ ?_ (fun hHeld => ?_)
    focus (refine KA.out _ ?_; first | exact t4 | exact t3 | exact t2 | exact TP.out | exact Tch.drewN W1 1)
    clear hK K
    try simp only [Act.put, List.getElem_toArray, List.getElem_cons_succ, List.getElem_cons_zero, List.setIfInBounds_toArray, List.set_cons_zero, List.set_cons_succ]
    refine wpAnyH_take (i := 3) (v := ?v6) rfl (by kernel_rfl) (by kernel_rfl) (by kernel_rfl) (fun _ _ _ h => h) (Or.inl ⟨by kernel_rfl, ?hy6⟩) (by assumption) ?rest6
    case hy6 => (intro w hSw; (try dsimp only at hSw); go_simp; all_goals with_reducible rfl)
    try simp only [Act.put, List.getElem_toArray, List.getElem_cons_succ, List.getElem_cons_zero, List.setIfInBounds_toArray, List.set_cons_zero, List.set_cons_succ]
    refine wpAnyH_take (i := 4) (v := ?v7) rfl (by kernel_rfl) (by kernel_rfl) (by kernel_rfl) (fun _ _ _ h => h) (Or.inl ⟨by kernel_rfl, ?hy7⟩) (by assumption) ?rest7
    case hy7 => (intro w hSw; (try dsimp only at hSw); go_simp; all_goals with_reducible rfl)
    try simp only [Act.put, List.getElem_toArray, List.getElem_cons_succ, List.getElem_cons_zero, List.setIfInBounds_toArray, List.set_cons_zero, List.set_cons_succ]
    refine wpAnyH_take (i := 5) (v := ?v8) rfl (by kernel_rfl) (by kernel_rfl) (by kernel_rfl) (fun _ _ _ h => h) (Or.inl ⟨by kernel_rfl, ?hy8⟩) (by assumption) ?rest8
    case hy8 => (intro w hSw; (try dsimp only at hSw); go_simp; all_goals with_reducible rfl)
    try simp only [Act.put, List.getElem_toArray, List.getElem_cons_succ, List.getElem_cons_zero, List.setIfInBounds_toArray, List.set_cons_zero, List.set_cons_succ]
    refine wpAnyH_take (i := 7) (v := ?v9) rfl (by kernel_rfl) (by kernel_rfl) (by kernel_rfl) (fun _ _ _ h => h) (Or.inl ⟨by kernel_rfl, ?hy9⟩) (by assumption) ?rest9
    case hy9 => (intro w hSw; (try dsimp only at hSw); go_simp; all_goals with_reducible rfl)
    try simp only [Act.put, List.getElem_toArray, List.getElem_cons_succ, List.getElem_cons_zero, List.setIfInBounds_toArray, List.set_cons_zero, List.set_cons_succ]
    refine wpAnyH_take (i := 8) (v := ?v10) rfl (by kernel_rfl) (by kernel_rfl) (by kernel_rfl) (fun _ _ _ h => h) (Or.inl ⟨by kernel_rfl, ?hy10⟩) (by assumption) ?rest10
    case hy10 => (intro w hSw; (try dsimp only at hSw); go_simp; all_goals with_reducible rfl)
    try simp only [Act.put, List.getElem_toArray, List.getElem_cons_succ, List.getElem_cons_zero, List.setIfInBounds_toArray, List.set_cons_zero, List.set_cons_succ]
    refine wpAnyH_ready (rs := [6]) (by kernel_rfl) (by simp) ?_
    refine AllReadyH.cons rfl (fun K hK => ?_) AllReadyH.nil
    go_simp
    refine (iSum kc k s bl _ data _ (HK.out.tch (T1.out.trans t2) (by simp)) (Rdata.out.tchNil (T1.out.trans t2)) (by have := HLEN.out; omega)).mono ?_; rintro e w3 ⟨v3, rfl, h3⟩; have t3 : Tch [] W1 w3 := t2.trans h3.out.2.1
    dsimp only
    refine hK.out _ _ ?_ (fun hHeld => ?_)
    focus (refine KA.out _ ?_; first | exact t4 | exact t3 | exact t2 | exact TP.out | exact Tch.drewN W1 1)
    clear hK K
    try simp only [Act.put, List.getElem_toArray, List.getElem_cons_succ, List.getElem_cons_zero, List.setIfInBounds_toArray, List.set_cons_zero, List.set_cons_succ]
    refine wpAnyH_ready (rs := [9]) (by kernel_rfl) (by simp) ?_
    refine AllReadyH.cons rfl (fun K hK => ?_) AllReadyH.nil
    go_simp
    refine (sHashD k s bl data _ _ (Rdata.out.tchNil (T1.out.trans t3)) (by have := HLEN.out; omega)).mono ?_; rintro e w4 ⟨v4, rfl, h4⟩; have t4 : Tch [] W1 w4 := t3.trans h4.out.2.1
    dsimp only
    refine hK.out _ _ ?_ (fun hHeld => ?_)
    focus (refine KA.out _ ?_; first | exact t4 | exact t3 | exact t2 | exact TP.out | exact Tch.drewN W1 1)
    clear hK K
    try simp only [Act.put, List.getElem_toArray, List.getElem_cons_succ, List.getElem_cons_zero, List.setIfInBounds_toArray, List.set_cons_zero, List.set_cons_succ]
    refine wpAnyH_ready (rs := [10]) (by kernel_rfl) (by simp) ?_
    refine AllReadyH.cons rfl (fun K hK => ?_) AllReadyH.nil
    go_simp
    refine (lSame _ _ _ _ w4 (h3.out.1.rd.tchNil h4.out.2.1) h4.out.1.rd).mono ?_; rintro e w5 ⟨rfl, rfl⟩; rw [decide_eq_true (rfl : _ = _)]
    dsimp only
    refine hK.out _ _ ?_ (fun hHeld => ?_)
    focus (refine KA.out _ ?_; first | exact t4 | exact t3 | exact t2 | exact TP.out | exact Tch.drewN W1 1)
    clear hK K
    try simp only [Act.put, List.getElem_toArray, List.getElem_cons_succ, List.getElem_cons_zero, List.setIfInBounds_toArray, List.set_cons_zero, List.set_cons_succ]
    refine wpAnyH_take (i := 11) (v := ?v11) rfl (by kernel_rfl) (by kernel_rfl) (by kernel_rfl) (fun _ _ _ h => h) (Or.inl ⟨by kernel_rfl, ?hy11⟩) (by assumption) ?rest11
    case hy11 => (intro w hSw; (try dsimp only at hSw); go_simp; all_goals with_reducible rfl)
    try simp only [Act.put, List.getElem_toArray, List.getElem_cons_succ, List.getElem_cons_zero, List.setIfInBounds_toArray, List.set_cons_zero, List.set_cons_succ]
    refine wpAnyH_take (i := 12) (v := ?v12) rfl (by kernel_rfl) (by kernel_rfl) (by kernel_rfl) (fun _ _ _ h => h) (Or.inl ⟨by kernel_rfl, ?hy12⟩) (by assumption) ?rest12
    case hy12 => (intro w hSw; (try dsimp only at hSw); go_simp; all_goals with_reducible rfl)
    try simp only [Act.put, List.getElem_toArray, List.getElem_cons_succ, List.getElem_cons_zero, List.setIfInBounds_toArray, List.set_cons_zero, List.set_cons_succ]
    refine wpAnyH_done (by kernel_rfl) ?_ _
    go_wp2
    refine J2.out _ _ ?_
    go_wp2
    go_ret
    exact ⟨rfl, T1.out.trans t4⟩
end Go.Proofs.YtgomodhhomekpaaDoor
