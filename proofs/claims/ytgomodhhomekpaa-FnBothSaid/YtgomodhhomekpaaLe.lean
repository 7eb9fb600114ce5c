/-
  FnBoth: its walk.
-/
import Derived.Test.YtgomodhhomekpaaM6
import Derived.Test.YtgomodhhomekpaaXk
import Derived.Test.YtgomodhhomekpaaHv
namespace Go.Proofs.Ytgomodhhomekpaa
open Go.RowKit Pu Ar
set_option linter.unusedSimpArgs false in
set_option maxHeartbeats 2000000 in
set_option maxRecDepth 100000 in
theorem fnBoth (kt : List UInt32) (k s bl : Int) (secret : By) (salt : By) (info : ByteArray) (n : Nat) (secretV : Value) (saltV : Value) (w : World) (hK : KIs w kt) (hsecret : Rd w secretV secret ∧ Nm secretV) (hsalt : Rd w saltV salt ∧ Nm saltV) (hinfo : info.size ≤ maxLen) (hn : n < 65536) :
    Calls Try.prog 4 #[.agg #[.int .i64 k, .int .i64 s, .int .i64 bl], secretV, saltV, .string info, .int .u16 n] w fun e w' => e = .returned (.bool true) ∧ Hid (Tch [] w w') := by
  obtain ⟨hsecret, hsecretN⟩ := hsecret
  obtain ⟨secretp, secretc, rfl⟩ := rd_ex hsecret
  have Rsecret := Lib.hid hsecret
  have Nsecret := Lib.hid hsecretN
  clear hsecret hsecretN
  obtain ⟨hsalt, hsaltN⟩ := hsalt
  obtain ⟨saltp, saltc, rfl⟩ := rd_ex hsalt
  have Rsalt := Lib.hid hsalt
  have Nsalt := Lib.hid hsaltN
  clear hsalt hsaltN
  have hminfo := hinfo
  unfold maxLen at hminfo
  clear hinfo
  have ZLinfo : Hid (info.data.toList.length = info.size) := by show info.data.toList.length = info.data.size; exact Array.length_toList
  have hbn : (n : Int) < 65536 := by omega
  clear hn
  have HK := Lib.hid hK
  clear hK
  go_enter Try.func4, Try.ntmps4
  refine wp_seq_k (fun K0 k0 => ?_)
  have J0 := Lib.hid k0
  clear k0
  go_wp2
  generalize hW1 : World.alloc _ _ = W1
  have R1 : Row W1 w.heap.size 23 [.int .i64 k, .int .i64 s, .int .i64 bl] := by rw [← hW1]; exact Row.new w 23 _
  have T1 : Hid (Tch [] w W1) := by rw [← hW1]; exact Tch.alloc _ _
  have c0 : W1.cell? ⟨w.heap.size, 0, none⟩ = some (.int .i64 k) := by rw [R1.cell]; rfl
  have c1 : W1.cell? ⟨w.heap.size, 1, none⟩ = some (.int .i64 s) := by rw [R1.cell]; rfl
  have c2 : W1.cell? ⟨w.heap.size, 2, none⟩ = some (.int .i64 bl) := by rw [R1.cell]; rfl
  clear hW1 R1
  obtain ⟨c, hc⟩ : ∃ c, c = w.heap.size := ⟨_, rfl⟩
  rw [← hc] at c0 c1 c2 ⊢
  clear hc
  obtain ⟨Z, hZ⟩ : ∃ Z, Z = szK k s bl := ⟨_, rfl⟩
  have HZ := Lib.hid hZ
  have zz := szK_bd k s bl
  rw [← hZ] at zz
  clear hZ
  have z1 : (1 : Int) ≤ Z := by omega
  have z2 : (Z : Int) ≤ 32 := by omega
  clear zz
  refine J0.out _ _ (wp_seq_k (fun K1 k1 => ?_))
  have J1 := Lib.hid k1
  clear k1
  by_cases zsecret : 2147483647 < (secret.length : Int)
  · go_wp2
    go_ret
    exact ⟨rfl, T1.out⟩
  by_cases zsalt : 2147483647 < (salt.length : Int)
  · go_wp2
    go_ret
    exact ⟨rfl, T1.out⟩
  by_cases zinfo : 2147483647 < (info.size : Int)
  · go_wp2
    go_ret
    exact ⟨rfl, T1.out⟩
  have KA : Hid (∀ w', Tch [] W1 w' → (w'.cell? ⟨c, 0, none⟩ = some (.int .i64 k) ∧ w'.cell? ⟨c, 1, none⟩ = some (.int .i64 s) ∧ w'.cell? ⟨c, 2, none⟩ = some (.int .i64 bl))) := fun w' h => ⟨h.cell c0 (by simp), h.cell c1 (by simp), h.cell c2 (by simp)⟩
  obtain ⟨U, cc, hcv, hU⟩ := by_of_str W1 info (by omega)
  have HU := Lib.hid hU.out
  clear hU
  have HLS : Hid (∀ p ∈ [secret, salt, info.data.toList], p.length ≤ 2147483647) := by
    intro p hp
    simp only [List.mem_cons, List.not_mem_nil, or_false] at hp
    have := ZLinfo.out
    rcases hp with rfl | rfl | rfl <;> omega
  go_wp2
  refine J1.out _ _ (wp_seq_k (fun K2 k2 => ?_))
  have J2 := Lib.hid k2
  clear k2
  go_wp2_with (fail)
  refine (lLong [secret, salt, info.data.toList] _ _ (prd_three (Rsecret.out.tchNil (T1.out.trans HU.out.1)) (Rsalt.out.tchNil (T1.out.trans HU.out.1)) HU.out.2) HLS.out).mono ?_
  rintro e W2 ⟨rfl, hW2⟩
  have t2 : Tch [] W1 W2 := by rw [← hW2]; exact HU.out.1.trans (Tch.alloc _ _)
  have T2 : Hid (Tch [] w W2) := T1.out.trans t2
  obtain ⟨d0, d1, d2⟩ := KA.out _ t2
  clear hW2 t2 c0 c1 c2 HLS KA
  obtain ⟨t, ht⟩ : ∃ t, t = decide (1048576 < [secret, salt, info.data.toList].flatten.length) := ⟨_, rfl⟩
  rw [← ht]
  have HTL := Lib.hid ht
  clear ht hcv
  cases t with
  | true =>
    go_wp2
    go_ret
    exact ⟨rfl, T2.out⟩
  | false =>
    have HLEN : Hid (secret.length + salt.length + info.size ≤ 1048576) := by
      have h := of_decide_eq_false HTL.out.symm
      simp only [List.flatten_cons, List.flatten_nil, List.append_nil, List.length_append] at h
      have := ZLinfo.out
      show _ ≤ _
      omega
    clear HTL
    go_wp2_with (fail)
    refine (sSize k s bl W2).mono ?_
    rintro e W3 ⟨rfl, h3⟩
    have T3 : Hid (Tch [] w W3) := T2.out.trans h3.out
    have c0 := h3.out.cell d0 (by simp)
    have c1 := h3.out.cell d1 (by simp)
    have c2 := h3.out.cell d2 (by simp)
    rw [← HZ.out]
    clear h3 d0 d1 d2
    by_cases hn : 255 * (Z : Int) < (n : Int)
    · go_wp2
      go_ret
      exact ⟨rfl, T3.out⟩
    · have HN : Hid (n ≤ 255 * szK k s bl) := by rw [← HZ.out]; show _ ≤ _; omega
      go_wp2_with (fail)
      refine (lHeavy k s bl _ _ _ W3).mono ?_
      rintro e W4 ⟨hv, rfl, h4⟩
      have T4 : Hid (Tch [] w W4) := T3.out.trans h4.out
      have d0 := h4.out.cell c0 (by simp)
      have d1 := h4.out.cell c1 (by simp)
      have d2 := h4.out.cell c2 (by simp)
      have hnb : decide (255 * (Z : Int) < (n : Int)) = false := decide_eq_false (by omega)
      simp only [hnb]
      clear h4 c0 c1 c2 hn hnb
      cases hv with
      | true =>
        go_wp2
        go_ret
        exact ⟨rfl, T4.out⟩
      | false =>
        go_wp2
        refine J2.out _ _ (wp_seq_k (fun K3 k3 => ?_))
        have J3 := Lib.hid k3
        clear k3
        go_wp2_with (fail)
        refine (iKey kt k s bl secret salt info n _ _ W4 (HK.out.tch T4.out (by simp)) (Rsecret.out.tchNil T4.out) (Rsalt.out.tchNil T4.out) (by have := HLEN.out; omega) (by have := HLEN.out; omega) (by have := HLEN.out; omega) HN.out).mono ?_
        rintro e W5 ⟨v5, rfl, h5⟩
        have t5 := h5.out.tchNil
        have T5 : Hid (Tch [] w W5) := T4.out.trans t5
        have c0 := t5.cell d0 (by simp)
        have c1 := t5.cell d1 (by simp)
        have c2 := t5.cell d2 (by simp)
        have R5 : Hid (Rd W5 v5 (expand (kindOf kt k s bl) (extract (kindOf kt k s bl) secret salt) info.data.toList n)) := h5.out.1.rd
        have hl5 : (expand (kindOf kt k s bl) (extract (kindOf kt k s bl) secret salt) info.data.toList n).length = n := expand_length (kindOf_ok kt k s bl) _ _ _
        obtain ⟨p5, n5, rfl⟩ := rd_ex R5.out
        rw [hl5] at R5 ⊢
        clear h5 t5 hl5 d0 d1 d2
        have wn : IntKind.i64.wrap (n : Int) = n := by rw [IntKind.wrap_i64]; omega
        have KA : Hid (∀ w', Tch [] W5 w' → (w'.cell? ⟨c, 0, none⟩ = some (.int .i64 k) ∧ w'.cell? ⟨c, 1, none⟩ = some (.int .i64 s) ∧ w'.cell? ⟨c, 2, none⟩ = some (.int .i64 bl))) := fun w' h => ⟨h.cell c0 (by simp), h.cell c1 (by simp), h.cell c2 (by simp)⟩
        go_wp2
        refine J3.out _ _ (wp_seq_k (fun K4 k4 => ?_))
        have J4 := Lib.hid k4
        clear k4
        refine wp_region_held_drew (S := (fun w' => w'.cell? ⟨c, 0, none⟩ = some (.int .i64 k) ∧ w'.cell? ⟨c, 1, none⟩ = some (.int .i64 s) ∧ w'.cell? ⟨c, 2, none⟩ = some (.int .i64 bl))) (by kernel_rfl) ?_ (fun hHeld => ?_)
        focus (refine KA.out _ ?_; first | exact t7 | exact t6 | exact Tch.drewN W5 1)
        refine wpAnyH_take (i := 0) (v := ?v1) rfl (by kernel_rfl) (by kernel_rfl) (by kernel_rfl) (fun _ _ _ h => h) (Or.inl ⟨by kernel_rfl, ?hy1⟩) (by assumption) ?rest1
        case hy1 => (intro w hSw; (try dsimp only at hSw); go_simp; all_goals with_reducible rfl)
        try simp only [Act.put, List.getElem_toArray, List.getElem_cons_succ, List.getElem_cons_zero, List.setIfInBounds_toArray, List.set_cons_zero, List.set_cons_succ]
        refine wpAnyH_take (i := 1) (v := ?v2) rfl (by kernel_rfl) (by kernel_rfl) (by kernel_rfl) (fun _ _ _ h => h) (Or.inl ⟨by kernel_rfl, ?hy2⟩) (by assumption) ?rest2
        case hy2 => (intro w hSw; (try dsimp only at hSw); go_simp; all_goals with_reducible rfl)
        try simp only [Act.put, List.getElem_toArray, List.getElem_cons_succ, List.getElem_cons_zero, List.setIfInBounds_toArray, List.set_cons_zero, List.set_cons_succ]
        refine wpAnyH_take (i := 2) (v := ?v3) rfl (by kernel_rfl) (by kernel_rfl) (by kernel_rfl) (fun _ _ _ h => h) (Or.inl ⟨by kernel_rfl, ?hy3⟩) (by assumption) ?rest3
        case hy3 => (intro w hSw; (try dsimp only at hSw); go_simp; all_goals with_reducible rfl)
        try simp only [Act.put, List.getElem_toArray, List.getElem_cons_succ, List.getElem_cons_zero, List.setIfInBounds_toArray, List.set_cons_zero, List.set_cons_succ]
        refine wpAnyH_take (i := 3) (v := ?v4) rfl (by kernel_rfl) (by kernel_rfl) (by kernel_rfl) (fun _ _ _ h => h) (Or.inl ⟨by kernel_rfl, ?hy4⟩) (by assumption) ?rest4
        case hy4 => (intro w hSw; (try dsimp only at hSw); go_simp; all_goals with_reducible rfl)
        try simp only [Act.put, List.getElem_toArray, List.getElem_cons_succ, List.getElem_cons_zero, List.setIfInBounds_toArray, List.set_cons_zero, List.set_cons_succ]
        refine wpAnyH_take (i := 4) (v := ?v5) rfl (by kernel_rfl) (by kernel_rfl) (by kernel_rfl) (fun _ _ _ h => h) (Or.inl ⟨by kernel_rfl, ?hy5⟩) (by assumption) ?rest5
        case hy5 => (intro w hSw; (try dsimp only at hSw); go_simp; all_goals with_reducible rfl)
        try simp only [Act.put, List.getElem_toArray, List.getElem_cons_succ, List.getElem_cons_zero, List.setIfInBounds_toArray, List.set_cons_zero, List.set_cons_succ]
        refine wpAnyH_take (i := 5) (v := ?v6) rfl (by kernel_rfl) (by kernel_rfl) (by kernel_rfl) (fun _ _ _ h => h) (Or.inl ⟨by kernel_rfl, ?hy6⟩) (by assumption) ?rest6
        case hy6 => (intro w hSw; (try dsimp only at hSw); go_simp; all_goals with_reducible rfl)
        try simp only [Act.put, List.getElem_toArray, List.getElem_cons_succ, List.getElem_cons_zero, List.setIfInBounds_toArray, List.set_cons_zero, List.set_cons_succ]
        refine wpAnyH_take (i := 6) (v := ?v7) rfl (by kernel_rfl) (by kernel_rfl) (by kernel_rfl) (fun _ _ _ h => h) (Or.inl ⟨by kernel_rfl, ?hy7⟩) (by assumption) ?rest7
        case hy7 => (intro w hSw; (try dsimp only at hSw); go_simp; all_goals with_reducible rfl)
        try simp only [Act.put, List.getElem_toArray, List.getElem_cons_succ, List.getElem_cons_zero, List.setIfInBounds_toArray, List.set_cons_zero, List.set_cons_succ]
        refine wpAnyH_take (i := 7) (v := ?v8) rfl (by kernel_rfl) (by kernel_rfl) (by kernel_rfl) (fun _ _ _ h => h) (Or.inl ⟨by kernel_rfl, ?hy8⟩) (by assumption) ?rest8
        case hy8 => (intro w hSw; (try dsimp only at hSw); go_simp; all_goals with_reducible rfl)
        try simp only [Act.put, List.getElem_toArray, List.getElem_cons_succ, List.getElem_cons_zero, List.setIfInBounds_toArray, List.set_cons_zero, List.set_cons_succ]
        refine wpAnyH_take (i := 8) (v := ?v9) rfl (by kernel_rfl) (by kernel_rfl) (by kernel_rfl) (fun _ _ _ h => h) (Or.inl ⟨by kernel_rfl, ?hy9⟩) (by assumption) ?rest9
        case hy9 => (intro w hSw; (try dsimp only at hSw); go_simp; all_goals with_reducible rfl)
        try simp only [Act.put, List.getElem_toArray, List.getElem_cons_succ, List.getElem_cons_zero, List.setIfInBounds_toArray, List.set_cons_zero, List.set_cons_succ]
        refine wpAnyH_take (i := 9) (v := ?v10) rfl (by kernel_rfl) (by kernel_rfl) (by kernel_rfl) (fun _ _ _ h => h) (Or.inl ⟨by kernel_rfl, ?hy10⟩) (by assumption) ?rest10
        case hy10 => (intro w hSw; (try dsimp only at hSw); go_simp; all_goals with_reducible rfl)
        try simp only [Act.put, List.getElem_toArray, List.getElem_cons_succ, List.getElem_cons_zero, List.setIfInBounds_toArray, List.set_cons_zero, List.set_cons_succ]
        refine wpAnyH_take (i := 10) (v := ?v11) rfl (by kernel_rfl) (by kernel_rfl) (by kernel_rfl) (fun _ _ _ h => h) (Or.inl ⟨by kernel_rfl, ?hy11⟩) (by assumption) ?rest11
        case hy11 => (intro w hSw; (try dsimp only at hSw); go_simp; all_goals with_reducible rfl)
        try simp only [Act.put, List.getElem_toArray, List.getElem_cons_succ, List.getElem_cons_zero, List.setIfInBounds_toArray, List.set_cons_zero, List.set_cons_succ]
        refine wpAnyH_take (i := 12) (v := ?v12) rfl (by kernel_rfl) (by kernel_rfl) (by kernel_rfl) (fun _ _ _ h => h) (Or.inl ⟨by kernel_rfl, ?hy12⟩) (by assumption) ?rest12
        case hy12 => (intro w hSw; (try dsimp only at hSw); go_simp; all_goals with_reducible rfl)
        try simp only [Act.put, List.getElem_toArray, List.getElem_cons_succ, List.getElem_cons_zero, List.setIfInBounds_toArray, List.set_cons_zero, List.set_cons_succ]
        refine wpAnyH_take (i := 13) (v := ?v13) rfl (by kernel_rfl) (by kernel_rfl) (by kernel_rfl) (fun _ _ _ h => h) (Or.inl ⟨by kernel_rfl, ?hy13⟩) (by assumption) ?rest13
        case hy13 => (intro w hSw; (try dsimp only at hSw); go_simp; all_goals with_reducible rfl)
        try simp only [Act.put, List.getElem_toArray, List.getElem_cons_succ, List.getElem_cons_zero, List.setIfInBounds_toArray, List.set_cons_zero, List.set_cons_succ]
        refine wpAnyH_take (i := 14) (v := ?v14) rfl (by kernel_rfl) (by kernel_rfl) (by kernel_rfl) (fun _ _ _ h => h) (Or.inl ⟨by kernel_rfl, ?hy14⟩) (by assumption) ?rest14
        case hy14 => (intro w hSw; (try dsimp only at hSw); go_simp; all_goals with_reducible rfl)
        try simp only [Act.put, List.getElem_toArray, List.getElem_cons_succ, List.getElem_cons_zero, List.setIfInBounds_toArray, List.set_cons_zero, List.set_cons_succ]
        refine wpAnyH_ready (rs := [11]) (by kernel_rfl) (by simp) ?_
        refine AllReadyH.cons rfl (fun K hK => ?_) AllReadyH.nil
        go_simp
        refine (iExtract kt k s bl secret salt _ _ _ (HK.out.tch (T5.out.trans (Tch.drewN W5 1)) (by simp)) (Rsecret.out.tchNil (T5.out.trans (Tch.drewN W5 1))) (Rsalt.out.tchNil (T5.out.trans (Tch.drewN W5 1))) (by have := HLEN.out; omega) (by have := HLEN.out; omega)).mono ?_; rintro e w6 ⟨v6, rfl, h6⟩; have t6 : Tch [] W5 w6 := (Tch.drewN W5 1).trans h6.out.tchNil
        dsimp only
        refine hK.out _ _ ?_ (fun hHeld => ?_)
        focus (refine KA.out _ ?_; first | exact t7 | exact t6 | exact Tch.drewN W5 1)
        clear hK K
        try simp only [Act.put, List.getElem_toArray, List.getElem_cons_succ, List.getElem_cons_zero, List.setIfInBounds_toArray, List.set_cons_zero, List.set_cons_succ]
        refine wpAnyH_ready (rs := [15]) (by kernel_rfl) (by simp) ?_
        refine AllReadyH.cons rfl (fun K hK => ?_) AllReadyH.nil
        go_simp
        refine (iExpand kt k s bl (extract (kindOf kt k s bl) secret salt) info n v6 w6 (HK.out.tch (T5.out.trans t6) (by simp)) h6.out.1.rd (by rw [extract_length]; have := (kindOf_ok kt k s bl).size_le; omega) (by have := HLEN.out; omega) HN.out).mono ?_; rintro e w7 ⟨v7, rfl, h7⟩; have t7 : Tch [] W5 w7 := t6.trans h7.out.tchNil
        dsimp only
        refine hK.out _ _ ?_ (fun hHeld => ?_)
        focus (refine KA.out _ ?_; first | exact t7 | exact t6 | exact Tch.drewN W5 1)
        clear hK K
        try simp only [Act.put, List.getElem_toArray, List.getElem_cons_succ, List.getElem_cons_zero, List.setIfInBounds_toArray, List.set_cons_zero, List.set_cons_succ]
        refine wpAnyH_ready (rs := [16]) (by kernel_rfl) (by simp) ?_
        refine AllReadyH.cons rfl (fun K hK => ?_) AllReadyH.nil
        go_simp
        refine (lSame _ _ _ _ w7 (R5.out.tchNil t7) h7.out.1.rd).mono ?_; rintro e w8 ⟨rfl, rfl⟩; rw [decide_eq_true (rfl : _ = _)]
        dsimp only
        refine hK.out _ _ ?_ (fun hHeld => ?_)
        focus (refine KA.out _ ?_; first | exact t7 | exact t6 | exact Tch.drewN W5 1)
        clear hK K
        try simp only [Act.put, List.getElem_toArray, List.getElem_cons_succ, List.getElem_cons_zero, List.setIfInBounds_toArray, List.set_cons_zero, List.set_cons_succ]
        refine wpAnyH_take (i := 17) (v := ?v15) rfl (by kernel_rfl) (by kernel_rfl) (by kernel_rfl) (fun _ _ _ h => h) (Or.inl ⟨by kernel_rfl, ?hy15⟩) (by assumption) ?rest15
        case hy15 => (intro w hSw; (try dsimp only at hSw); go_simp; all_goals with_reducible rfl)
        try simp only [Act.put, List.getElem_toArray, List.getElem_cons_succ, List.getElem_cons_zero, List.setIfInBounds_toArray, List.set_cons_zero, List.set_cons_succ]
        refine wpAnyH_take (i := 18) (v := ?v16) rfl (by kernel_rfl) (by kernel_rfl) (by kernel_rfl) (fun _ _ _ h => h) (Or.inl ⟨by kernel_rfl, ?hy16⟩) (by assumption) ?rest16
        case hy16 => (intro w hSw; (try dsimp only at hSw); go_simp; all_goals with_reducible rfl)
        try simp only [Act.put, List.getElem_toArray, List.getElem_cons_succ, List.getElem_cons_zero, List.setIfInBounds_toArray, List.set_cons_zero, List.set_cons_succ]
        refine wpAnyH_done (by kernel_rfl) ?_ _
        go_wp2
        refine J4.out _ _ ?_
        go_wp2
        go_ret
        exact ⟨rfl, T5.out.trans t7⟩
end Go.Proofs.Ytgomodhhomekpaa
