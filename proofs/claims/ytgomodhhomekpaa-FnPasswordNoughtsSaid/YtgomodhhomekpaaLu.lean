/-
  FnPasswordNoughts: its walk.
-/
import Derived.Test.YtgomodhhomekpaaM6
import Derived.Test.YtgomodhhomekpaaPe
import Derived.Test.YtgomodhhomekpaaHv
import Derived.Test.YtgomodhhomekpaaLn
import Derived.Test.YtgomodhhomekpaaSd
namespace Go.Proofs.Ytgomodhhomekpaa
open Go.RowKit Pu Ar
set_option linter.unusedSimpArgs false in
set_option maxHeartbeats 2000000 in
set_option maxRecDepth 100000 in
theorem fnPasswordNoughts (kt : List UInt32) (k s bl : Int) (pw : ByteArray) (more : UInt8) (salt : By) (iter : UInt8) (saltV : Value) (w : World) (hK : KIs w kt) (hpw : pw.size ≤ maxLen) (hsalt : Rd w saltV salt ∧ Nm saltV) :
    Calls Try.prog 22 #[.agg #[.int .i64 k, .int .i64 s, .int .i64 bl], .string pw, vb more, saltV, vb iter] w fun e w' => e = .returned (.bool true) ∧ Hid (Tch [] w w') := by
  obtain ⟨hsalt, hsaltN⟩ := hsalt
  obtain ⟨saltp, saltc, rfl⟩ := rd_ex hsalt
  have Rsalt := Lib.hid hsalt
  have Nsalt := Lib.hid hsaltN
  clear hsalt hsaltN
  have hmpw := hpw
  unfold maxLen at hmpw
  clear hpw
  have ZLpw : Hid (pw.data.toList.length = pw.size) := by show pw.data.toList.length = pw.data.size; exact Array.length_toList
  obtain ⟨moren, hbmore, hvmore, hmmore⟩ := vb_int more
  have HMmore := Lib.hid hmmore
  have bbmore : (moren : Int) < 256 := by omega
  rw [hvmore]
  clear hmmore hvmore hbmore
  obtain ⟨itern, hbiter, hviter, hmiter⟩ := vb_int iter
  have HMiter := Lib.hid hmiter
  have bbiter : (itern : Int) < 256 := by omega
  rw [hviter]
  clear hmiter hviter hbiter
  have HK := Lib.hid hK
  clear hK
  go_enter Try.func22, Try.ntmps22
  refine wp_seq_k (fun K0 k0 => ?_)
  have J0 := Lib.hid k0
  clear k0
  go_wp2
  generalize hW1 : World.alloc _ _ = W1
  have R1 : Row W1 w.heap.size 23 [.int .i64 k, .int .i64 s, .int .i64 bl] := by rw [← hW1]; exact Row.new w 23 _
  have T1 : Hid (Tch [] w W1) := by rw [← hW1]; exact Tch.alloc _ _
  have c0 : W1.cell? ⟨w.heap.size, 0, none⟩ = some (.int .i64 k) := by rw [R1.cell]; rfl
  have c1 : W1.cell? ⟨w.heap.size, 1, none⟩ = some (.int .i64 s) := by rw [R1.cell]; rfl
  have c2 : W1.cell? ⟨w.heap.size, 2, none⟩ = some (.int .i64 bl) := by rw [R1.cell]; rfl
  clear hW1 R1
  obtain ⟨c, hc⟩ : ∃ c, c = w.heap.size := ⟨_, rfl⟩
  rw [← hc] at c0 c1 c2 ⊢
  clear hc
  obtain ⟨Z, hZ⟩ : ∃ Z, Z = szK k s bl := ⟨_, rfl⟩
  have HZ := Lib.hid hZ
  have zz := szK_bd k s bl
  rw [← hZ] at zz
  clear hZ
  have z1 : (1 : Int) ≤ Z := by omega
  have z2 : (Z : Int) ≤ 32 := by omega
  clear zz
  refine J0.out _ _ (wp_seq_k (fun K1 k1 => ?_))
  have J1 := Lib.hid k1
  clear k1
  by_cases zpw : 2147483647 < (pw.size : Int)
  · go_wp2
    go_ret
    exact ⟨rfl, T1.out⟩
  by_cases zsalt : 2147483647 < (salt.length : Int)
  · go_wp2
    go_ret
    exact ⟨rfl, T1.out⟩
  have KA : Hid (∀ w', Tch [] W1 w' → (w'.cell? ⟨c, 0, none⟩ = some (.int .i64 k) ∧ w'.cell? ⟨c, 1, none⟩ = some (.int .i64 s) ∧ w'.cell? ⟨c, 2, none⟩ = some (.int .i64 bl))) := fun w' h => ⟨h.cell c0 (by simp), h.cell c1 (by simp), h.cell c2 (by simp)⟩
  obtain ⟨U, cc, hcv, hU⟩ := by_of_str W1 pw (by omega)
  have HU := Lib.hid hU.out
  clear hU
  have HLS : Hid (∀ p ∈ [pw.data.toList, salt], p.length ≤ 2147483647) := by
    intro p hp
    simp only [List.mem_cons, List.not_mem_nil, or_false] at hp
    have := ZLpw.out
    rcases hp with rfl | rfl <;> omega
  go_wp2
  refine J1.out _ _ (wp_seq_k (fun K2 k2 => ?_))
  have J2 := Lib.hid k2
  clear k2
  go_wp2_with (fail)
  refine (lLong [pw.data.toList, salt] _ _ (prd_two HU.out.2 (Rsalt.out.tchNil (T1.out.trans HU.out.1))) HLS.out).mono ?_
  rintro e W2 ⟨rfl, hW2⟩
  have t2 : Tch [] W1 W2 := by rw [← hW2]; exact HU.out.1.trans (Tch.alloc _ _)
  have T2 : Hid (Tch [] w W2) := T1.out.trans t2
  obtain ⟨d0, d1, d2⟩ := KA.out _ t2
  clear hW2 t2 c0 c1 c2 HLS KA
  obtain ⟨t, ht⟩ : ∃ t, t = decide (1048576 < [pw.data.toList, salt].flatten.length) := ⟨_, rfl⟩
  rw [← ht]
  have HTL := Lib.hid ht
  clear ht hcv
  cases t with
  | true =>
    go_wp2
    go_ret
    exact ⟨rfl, T2.out⟩
  | false =>
    have HLEN : Hid (pw.size + salt.length ≤ 1048576) := by
      have h := of_decide_eq_false HTL.out.symm
      simp only [List.flatten_cons, List.flatten_nil, List.append_nil, List.length_append] at h
      have := ZLpw.out
      show _ ≤ _
      omega
    clear HTL
    go_wp2_with (fail)
    refine (sBlock k s bl W2).mono ?_
    rintro e W3 ⟨rfl, h3⟩
    have T3 : Hid (Tch [] w W3) := T2.out.trans h3.out
    have c0 := h3.out.cell d0 (by simp)
    have c1 := h3.out.cell d1 (by simp)
    have c2 := h3.out.cell d2 (by simp)
    clear h3 d0 d1 d2
    have hbk := blK_bd k s bl
    obtain ⟨BK, hBK⟩ : ∃ BK, BK = blK k s bl := ⟨_, rfl⟩
    rw [← hBK] at hbk ⊢
    have HBK := Lib.hid hBK
    have ibk : (BK : Int) ≤ 64 := by omega
    clear hBK hbk
    by_cases hb : (BK : Int) < (pw.size : Int) + (moren : Int)
    · go_wp2
      go_ret
      exact ⟨rfl, T3.out⟩
    · have HB : Hid (pw.size + moren ≤ BK) := by show _ ≤ _; omega
      go_wp2
      refine J2.out _ _ (wp_seq_k (fun K3 k3 => ?_))
      have J3 := Lib.hid k3
      clear k3 hb
      go_wp2_with (fail)
      refine (sSize k s bl W3).mono ?_
      rintro e W5 ⟨rfl, h5⟩
      have T5 : Hid (Tch [] w W5) := T3.out.trans h5.out
      have d0 := h5.out.cell c0 (by simp)
      have d1 := h5.out.cell c1 (by simp)
      have d2 := h5.out.cell c2 (by simp)
      rw [← HZ.out]
      clear h5 c0 c1 c2
      have HZ1 : Hid (1 ≤ Z ∧ Z ≤ 32) := by show _ ∧ _; omega
      go_wp2
      refine J3.out _ _ (wp_seq_k (fun K4 k4 => ?_))
      have J4 := Lib.hid k4
      clear k4
      obtain ⟨M, hM⟩ : ∃ M, M = itern % 20 := ⟨_, rfl⟩
      have hmM : (itern : Int) % 20 = (M : Int) := by omega
      have hM2 : M ≤ 19 := by omega
      have hMi : (M : Int) ≤ 19 := by omega
      have HM2 := Lib.hid hM2
      have HDE : Hid (∀ (ps : ByteArray) (u : Value) (W : World), ps.size ≤ 2147483647 → KIs W kt → Rd W u salt → Calls Try.prog 37 #[.agg #[.int .i64 k, .int .i64 s, .int .i64 bl], .string ps, u, .int .i64 (1 + (M : Int)), .int .i64 (Z : Int)] W (IDE W (fun w v => Rd w v (derive (kindOf kt k s bl) ps.data.toList salt M Z) ∧ Nm v) true)) := fun ps u W h0 h1 h2 => by
        rw [Int.add_comm]
        exact iDerive kt k s bl ps salt M Z u W h1 h2 (by have := HLEN.out; omega) h0 HZ1.out.1 (by have := HZ1.out; omega) (by have := HM2.out; omega)
      clear hM hM2
      go_wp2_with (fail)
      refine (HDE.out pw _ _ (by have := HLEN.out; omega) (HK.out.tch T5.out (by simp)) (Rsalt.out.tchNil T5.out)).mono ?_
      rintro e W6 ⟨v6, rfl, h6⟩
      have t6 := h6.out.2
      have T6 : Hid (Tch [] w W6) := T5.out.trans t6
      have c0 := t6.cell d0 (by simp)
      have c1 := t6.cell d1 (by simp)
      have c2 := t6.cell d2 (by simp)
      have R6 : Hid (Rd W6 v6 (derive (kindOf kt k s bl) pw.data.toList salt M Z)) := h6.out.1.1
      have hl6 : (derive (kindOf kt k s bl) pw.data.toList salt M Z).length = Z := derive_length (kindOf_ok kt k s bl) _ _ _ _
      obtain ⟨p6, n6, rfl⟩ := rd_ex R6.out
      rw [hl6] at R6 ⊢
      clear h6 t6 hl6 d0 d1 d2
      obtain ⟨W7, hW7⟩ : ∃ W7, W7 = (W6.drew).alloc (.cells (List.replicate moren (Value.int .u8 0)).toArray 5) := ⟨_, rfl⟩
      have hmk : (Instr.makeSlice 24 (.int .u8 (moren : Int)) (.int .u8 (moren : Int))).run Try.prog (W6.drew) = .ok (.slice (some ⟨W6.heap.size, 0, none⟩) moren moren) W7 := by
        rw [hW7]; exact run_make_u8 moren (by omega) (W6.drew)
      have t7 : Tch [] W6 W7 := by rw [hW7]; exact (Tch.drewN W6 1).trans (Tch.alloc _ _)
      have TT7 := Lib.hid t7
      have R7 : Rd W7 (.slice (some ⟨W6.heap.size, 0, none⟩) moren moren) (List.replicate moren 0) := by
        rw [hW7]; exact rd_cells W6.drew (List.replicate moren 0) _ moren (by simp) (by simp; omega) (by simp [vb, ib])
      have hst := run_string_of R7
      obtain ⟨S, hS⟩ : ∃ S, S = strOf (List.replicate moren 0) := ⟨_, rfl⟩
      rw [← hS] at hst
      have hSL : S.data.toList = List.replicate moren 0 := by rw [hS]; exact strOf_list _
      obtain ⟨PS, hPS⟩ : ∃ PS : ByteArray, PS = pw ++ S := ⟨_, rfl⟩
      have hcsz : ¬ (9223372036854775807 < pw.size + S.size) := by
        have h1 : S.data.toList.length = S.size := by show S.data.toList.length = S.data.size; exact Array.length_toList
        rw [hSL, List.length_replicate] at h1
        have := HLEN.out
        omega
      have HPE := Lib.hid hPS
      have hPL : PS.data.toList = pw.data.toList ++ List.replicate moren 0 := by rw [hPS, ← hSL]; simp
      have HPS : Hid (PS.size ≤ 2147483647) := by
        have h1 : PS.data.toList.length = PS.size := by show PS.data.toList.length = PS.data.size; exact Array.length_toList
        have h2 := ZLpw.out
        rw [hPL, List.length_append, List.length_replicate, h2] at h1
        have := HLEN.out
        show _ ≤ _
        omega
      have HEQ : Hid (derive (kindOf kt k s bl) PS.data.toList salt M Z = derive (kindOf kt k s bl) pw.data.toList salt M Z) := by
        show _ = _
        rw [hPL]
        exact derive_noughts _ _ _ _ _ _ (by rw [kind_block, ← HBK.out]; have := HB.out; have h := ZLpw.out; rw [h]; exact this)
      have WRP : Hid (IntKind.i64.wrap (1 + (IntKind.i64.wrap (itern : Int)).tmod 20) = 1 + (M : Int)) := wrap_it itern M (by omega) hmM
      clear hW7 t7 R7 hS hSL hPS hPL
      have KA : Hid (∀ w', Tch [] W6 w' → (w'.cell? ⟨c, 0, none⟩ = some (.int .i64 k) ∧ w'.cell? ⟨c, 1, none⟩ = some (.int .i64 s) ∧ w'.cell? ⟨c, 2, none⟩ = some (.int .i64 bl))) := fun w' h => ⟨h.cell c0 (by simp), h.cell c1 (by simp), h.cell c2 (by simp)⟩
      go_wp2
      refine J4.out _ _ (wp_seq_k (fun K5 k5 => ?_))
      have J5 := Lib.hid k5
      clear k5
      refine wp_region_held_drew (S := (fun w' => w'.cell? ⟨c, 0, none⟩ = some (.int .i64 k) ∧ w'.cell? ⟨c, 1, none⟩ = some (.int .i64 s) ∧ w'.cell? ⟨c, 2, none⟩ = some (.int .i64 bl))) (by kernel_rfl) ?_ (fun hHeld => ?_)
      focus (refine KA.out _ ?_; first | exact t8 | exact TT7.out | exact Tch.drewN W6 1)
      refine wpAnyH_take (i := 0) (v := ?v1) rfl (by kernel_rfl) (by kernel_rfl) (by kernel_rfl) (fun _ _ _ h => h) (Or.inl ⟨by kernel_rfl, ?hy1⟩) (by assumption) ?rest1
      case hy1 => (intro w hSw; (try dsimp only at hSw); go_simp; all_goals with_reducible rfl)
      try simp only [Act.put, List.getElem_toArray, List.getElem_cons_succ, List.getElem_cons_zero, List.setIfInBounds_toArray, List.set_cons_zero, List.set_cons_succ]
      refine wpAnyH_take (i := 1) (v := ?v2) rfl (by kernel_rfl) (by kernel_rfl) (by kernel_rfl) (fun _ _ _ h => h) (Or.inl ⟨by kernel_rfl, ?hy2⟩) (by assumption) ?rest2
      case hy2 => (intro w hSw; (try dsimp only at hSw); go_simp; all_goals with_reducible rfl)
      try simp only [Act.put, List.getElem_toArray, List.getElem_cons_succ, List.getElem_cons_zero, List.setIfInBounds_toArray, List.set_cons_zero, List.set_cons_succ]
      refine wpAnyH_take (i := 2) (v := ?v3) rfl (by kernel_rfl) (by kernel_rfl) (by kernel_rfl) (fun _ _ _ h => h) (Or.inl ⟨by kernel_rfl, ?hy3⟩) (by assumption) ?rest3
      case hy3 => (intro w hSw; (try dsimp only at hSw); go_simp; all_goals with_reducible rfl)
      try simp only [Act.put, List.getElem_toArray, List.getElem_cons_succ, List.getElem_cons_zero, List.setIfInBounds_toArray, List.set_cons_zero, List.set_cons_succ]
      refine wpAnyH_take (i := 6) (v := ?v4) rfl (by kernel_rfl) (by kernel_rfl) (by kernel_rfl) (fun _ _ _ h => h) (Or.inl ⟨by kernel_rfl, ?hy4⟩) (by assumption) ?rest4
      case hy4 => (intro w hSw; (try dsimp only at hSw); go_simp; all_goals with_reducible rfl)
      try simp only [Act.put, List.getElem_toArray, List.getElem_cons_succ, List.getElem_cons_zero, List.setIfInBounds_toArray, List.set_cons_zero, List.set_cons_succ]
      refine wpAnyH_take (i := 7) (v := ?v5) rfl (by kernel_rfl) (by kernel_rfl) (by kernel_rfl) (fun _ _ _ h => h) (Or.inl ⟨by kernel_rfl, ?hy5⟩) (by assumption) ?rest5
      case hy5 => (intro w hSw; (try dsimp only at hSw); go_simp; all_goals with_reducible rfl)
      try simp only [Act.put, List.getElem_toArray, List.getElem_cons_succ, List.getElem_cons_zero, List.setIfInBounds_toArray, List.set_cons_zero, List.set_cons_succ]
      refine wpAnyH_take (i := 8) (v := ?v6) rfl (by kernel_rfl) (by kernel_rfl) (by kernel_rfl) (fun _ _ _ h => h) (Or.inl ⟨by kernel_rfl, ?hy6⟩) (by assumption) ?rest6
      case hy6 => (intro w hSw; (try dsimp only at hSw); go_simp; all_goals with_reducible rfl)
      try simp only [Act.put, List.getElem_toArray, List.getElem_cons_succ, List.getElem_cons_zero, List.setIfInBounds_toArray, List.set_cons_zero, List.set_cons_succ]
      refine wpAnyH_take (i := 9) (v := ?v7) rfl (by kernel_rfl) (by kernel_rfl) (by kernel_rfl) (fun _ _ _ h => h) (Or.inl ⟨by kernel_rfl, ?hy7⟩) (by assumption) ?rest7
      case hy7 => (intro w hSw; (try dsimp only at hSw); go_simp; all_goals with_reducible rfl)
      try simp only [Act.put, List.getElem_toArray, List.getElem_cons_succ, List.getElem_cons_zero, List.setIfInBounds_toArray, List.set_cons_zero, List.set_cons_succ]
      refine wpAnyH_take (i := 10) (v := ?v8) rfl (by kernel_rfl) (by kernel_rfl) (by kernel_rfl) (fun _ _ _ h => h) (Or.inl ⟨by kernel_rfl, ?hy8⟩) (by assumption) ?rest8
      case hy8 => (intro w hSw; (try dsimp only at hSw); go_simp; all_goals with_reducible rfl)
      try simp only [Act.put, List.getElem_toArray, List.getElem_cons_succ, List.getElem_cons_zero, List.setIfInBounds_toArray, List.set_cons_zero, List.set_cons_succ]
      refine wpAnyH_take (i := 11) (v := ?v9) rfl (by kernel_rfl) (by kernel_rfl) (by kernel_rfl) (fun _ _ _ h => h) (Or.inl ⟨by kernel_rfl, ?hy9⟩) (by assumption) ?rest9
      case hy9 => (intro w hSw; (try dsimp only at hSw); go_simp; all_goals with_reducible rfl)
      try simp only [Act.put, List.getElem_toArray, List.getElem_cons_succ, List.getElem_cons_zero, List.setIfInBounds_toArray, List.set_cons_zero, List.set_cons_succ]
      refine wpAnyH_ready (rs := [3]) (by kernel_rfl) (by simp) ?_
      refine AllReadyH.cons rfl (fun K hK => ?_) AllReadyH.nil
      go_simp
      refine hK.out _ _ ?_ (fun hHeld => ?_)
      focus (refine KA.out _ ?_; first | exact t8 | exact TT7.out | exact Tch.drewN W6 1)
      clear hK K
      try simp only [Act.put, List.getElem_toArray, List.getElem_cons_succ, List.getElem_cons_zero, List.setIfInBounds_toArray, List.set_cons_zero, List.set_cons_succ]
      refine wpAnyH_ready (rs := [4]) (by kernel_rfl) (by simp) ?_
      refine AllReadyH.cons rfl (fun K hK => ?_) AllReadyH.nil
      go_simp
      refine hK.out _ _ ?_ (fun hHeld => ?_)
      focus (refine KA.out _ ?_; first | exact t8 | exact TT7.out | exact Tch.drewN W6 1)
      clear hK K
      try simp only [Act.put, List.getElem_toArray, List.getElem_cons_succ, List.getElem_cons_zero, List.setIfInBounds_toArray, List.set_cons_zero, List.set_cons_succ]
      refine wpAnyH_take (i := 5) (v := ?v10) rfl (by kernel_rfl) (by kernel_rfl) (by kernel_rfl) (fun _ _ _ h => h) (Or.inl ⟨by kernel_rfl, ?hy10⟩) (by assumption) ?rest10
      case hy10 => (intro w hSw; (try dsimp only at hSw); go_simp; all_goals with_reducible rfl)
      try simp only [Act.put, List.getElem_toArray, List.getElem_cons_succ, List.getElem_cons_zero, List.setIfInBounds_toArray, List.set_cons_zero, List.set_cons_succ]
      refine wpAnyH_ready (rs := [12]) (by kernel_rfl) (by simp) ?_
      refine AllReadyH.cons rfl (fun K hK => ?_) AllReadyH.nil
      go_simp
      rw [WRP.out, ← HPE.out]; refine (HDE.out PS _ W7 HPS.out (HK.out.tch (T6.out.trans TT7.out) (by simp)) (Rsalt.out.tchNil (T6.out.trans TT7.out))).mono ?_; rintro e w8 ⟨v8, rfl, h8⟩; have t8 : Tch [] W6 w8 := TT7.out.trans h8.out.2
      dsimp only
      refine hK.out _ _ ?_ (fun hHeld => ?_)
      focus (refine KA.out _ ?_; first | exact t8 | exact TT7.out | exact Tch.drewN W6 1)
      clear hK K
      try simp only [Act.put, List.getElem_toArray, List.getElem_cons_succ, List.getElem_cons_zero, List.setIfInBounds_toArray, List.set_cons_zero, List.set_cons_succ]
      refine wpAnyH_take (i := 13) (v := ?v11) rfl (by kernel_rfl) (by kernel_rfl) (by kernel_rfl) (fun _ _ _ h => h) (Or.inl ⟨by kernel_rfl, ?hy11⟩) (by assumption) ?rest11
      case hy11 => (intro w hSw; (try dsimp only at hSw); go_simp; all_goals with_reducible rfl)
      try simp only [Act.put, List.getElem_toArray, List.getElem_cons_succ, List.getElem_cons_zero, List.setIfInBounds_toArray, List.set_cons_zero, List.set_cons_succ]
      refine wpAnyH_take (i := 14) (v := ?v12) rfl (by kernel_rfl) (by kernel_rfl) (by kernel_rfl) (fun _ _ _ h => h) (Or.inl ⟨by kernel_rfl, ?hy12⟩) (by assumption) ?rest12
      case hy12 => (intro w hSw; (try dsimp only at hSw); go_simp; all_goals with_reducible rfl)
      try simp only [Act.put, List.getElem_toArray, List.getElem_cons_succ, List.getElem_cons_zero, List.setIfInBounds_toArray, List.set_cons_zero, List.set_cons_succ]
      refine wpAnyH_take (i := 15) (v := ?v13) rfl (by kernel_rfl) (by kernel_rfl) (by kernel_rfl) (fun _ _ _ h => h) (Or.inl ⟨by kernel_rfl, ?hy13⟩) (by assumption) ?rest13
      case hy13 => (intro w hSw; (try dsimp only at hSw); go_simp; all_goals with_reducible rfl)
      try simp only [Act.put, List.getElem_toArray, List.getElem_cons_succ, List.getElem_cons_zero, List.setIfInBounds_toArray, List.set_cons_zero, List.set_cons_succ]
      refine wpAnyH_take (i := 16) (v := ?v14) rfl (by kernel_rfl) (by kernel_rfl) (by kernel_rfl) (fun _ _ _ h => h) (Or.inl ⟨by kernel_rfl, ?hy14⟩) (by assumption) ?rest14
      case hy14 => (intro w hSw; (try dsimp only at hSw); go_simp; all_goals with_reducible rfl)
      try simp only [Act.put, List.getElem_toArray, List.getElem_cons_succ, List.getElem_cons_zero, List.setIfInBounds_toArray, List.set_cons_zero, List.set_cons_succ]
      refine wpAnyH_take (i := 17) (v := ?v15) rfl (by kernel_rfl) (by kernel_rfl) (by kernel_rfl) (fun _ _ _ h => h) (Or.inl ⟨by kernel_rfl, ?hy15⟩) (by assumption) ?rest15
      case hy15 => (intro w hSw; (try dsimp only at hSw); go_simp; all_goals with_reducible rfl)
      try simp only [Act.put, List.getElem_toArray, List.getElem_cons_succ, List.getElem_cons_zero, List.setIfInBounds_toArray, List.set_cons_zero, List.set_cons_succ]
      refine wpAnyH_done (by kernel_rfl) ?_ _
      have T8 : Hid (Tch [] w w8) := T6.out.trans t8
      have R8 : Hid (Rd w8 v8 (derive (kindOf kt k s bl) pw.data.toList salt M Z)) := by rw [← HEQ.out]; exact h8.out.1.1
      have S6 : Hid (Rd w8 (.slice p6 Z n6) (derive (kindOf kt k s bl) pw.data.toList salt M Z)) := R6.out.tchNil t8
      clear h8 t8 hmk hst hcsz c0 c1 c2 KA hmM
      go_wp2
      refine J5.out _ _ (wp_seq_k (fun K6 k6 => ?_))
      have J6 := Lib.hid k6
      clear k6
      go_wp2_with (fail)
      refine (lSame _ _ _ _ w8 S6.out R8.out).mono ?_
      rintro e W8 ⟨rfl, rfl⟩
      go_wp2
      refine J6.out _ _ ?_
      go_wp2
      go_ret
      exact ⟨by simp, T8.out⟩
end Go.Proofs.Ytgomodhhomekpaa
