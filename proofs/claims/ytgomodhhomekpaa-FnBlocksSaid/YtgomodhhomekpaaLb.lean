/-
  FnBlocks: its walk.
-/
import Derived.Test.YtgomodhhomekpaaM6
import Derived.Test.YtgomodhhomekpaaXr
import Derived.Test.YtgomodhhomekpaaHv
import Derived.Test.YtgomodhhomekpaaSb
import Derived.Test.YtgomodhhomekpaaPe
namespace Go.Proofs.Ytgomodhhomekpaa
open Go.RowKit Pu Ar
set_option linter.unusedSimpArgs false in
set_option maxHeartbeats 2000000 in
set_option maxRecDepth 100000 in
theorem fnBlocks (kt : List UInt32) (k s bl : Int) (prk : By) (info : ByteArray) (kk : UInt8) (prkV : Value) (w : World) (hK : KIs w kt) (hprk : Rd w prkV prk ∧ Nm prkV) (hinfo : info.size ≤ maxLen) :
    Calls Try.prog 17 #[.agg #[.int .i64 k, .int .i64 s, .int .i64 bl], prkV, .string info, vb kk] w fun e w' => e = .returned (.bool true) ∧ Hid (Tch [] w w') := by
  obtain ⟨hprk, hprkN⟩ := hprk
  obtain ⟨prkp, prkc, rfl⟩ := rd_ex hprk
  have Rprk := Lib.hid hprk
  have Nprk := Lib.hid hprkN
  clear hprk hprkN
  have hminfo := hinfo
  unfold maxLen at hminfo
  clear hinfo
  have ZLinfo : Hid (info.data.toList.length = info.size) := by show info.data.toList.length = info.data.size; exact Array.length_toList
  obtain ⟨kkn, hbkk, hvkk, hmkk⟩ := vb_int kk
  have HMkk := Lib.hid hmkk
  have bbkk : (kkn : Int) < 256 := by omega
  rw [hvkk]
  clear hmkk hvkk hbkk
  have HK := Lib.hid hK
  clear hK
  go_enter Try.func17, Try.ntmps17
  refine wp_seq_k (fun K0 k0 => ?_)
  have J0 := Lib.hid k0
  clear k0
  go_wp2
  generalize hW1 : World.alloc _ _ = W1
  have R1 : Row W1 w.heap.size 23 [.int .i64 k, .int .i64 s, .int .i64 bl] := by rw [← hW1]; exact Row.new w 23 _
  have T1 : Hid (Tch [] w W1) := by rw [← hW1]; exact Tch.alloc _ _
  have c0 : W1.cell? ⟨w.heap.size, 0, none⟩ = some (.int .i64 k) := by rw [R1.cell]; rfl
  have c1 : W1.cell? ⟨w.heap.size, 1, none⟩ = some (.int .i64 s) := by rw [R1.cell]; rfl
  have c2 : W1.cell? ⟨w.heap.size, 2, none⟩ = some (.int .i64 bl) := by rw [R1.cell]; rfl
  clear hW1 R1
  obtain ⟨c, hc⟩ : ∃ c, c = w.heap.size := ⟨_, rfl⟩
  rw [← hc] at c0 c1 c2 ⊢
  clear hc
  obtain ⟨Z, hZ⟩ : ∃ Z, Z = szK k s bl := ⟨_, rfl⟩
  have HZ := Lib.hid hZ
  have zz := szK_bd k s bl
  rw [← hZ] at zz
  clear hZ
  have z1 : (1 : Int) ≤ Z := by omega
  have z2 : (Z : Int) ≤ 32 := by omega
  clear zz
  refine J0.out _ _ (wp_seq_k (fun K1 k1 => ?_))
  have J1 := Lib.hid k1
  clear k1
  by_cases zprk : 2147483647 < (prk.length : Int)
  · go_wp2
    go_ret
    exact ⟨rfl, T1.out⟩
  by_cases zinfo : 2147483647 < (info.size : Int)
  · go_wp2
    go_ret
    exact ⟨rfl, T1.out⟩
  have KA : Hid (∀ w', Tch [] W1 w' → (w'.cell? ⟨c, 0, none⟩ = some (.int .i64 k) ∧ w'.cell? ⟨c, 1, none⟩ = some (.int .i64 s) ∧ w'.cell? ⟨c, 2, none⟩ = some (.int .i64 bl))) := fun w' h => ⟨h.cell c0 (by simp), h.cell c1 (by simp), h.cell c2 (by simp)⟩
  go_wp2
  refine J1.out _ _ (wp_seq_k (fun K2 k2 => ?_))
  have J2 := Lib.hid k2
  clear k2
  obtain ⟨Uinfo, xinfo, hcv, hUinfo⟩ : ∃ U : World → World, ∃ x : World → Nat, (∀ w : World, (convert 9 24 (.string info)).run Try.prog w = .ok (.slice (some ⟨w.heap.size, 0, none⟩) info.size (x w)) (U w)) ∧ ∀ w, Hid (Tch [] w (U w) ∧ Rd (U w) (.slice (some ⟨w.heap.size, 0, none⟩) info.size (x w)) info.data.toList) :=
    ⟨fun w => (by_of_str w info (by omega)).choose, fun w => (by_of_str w info (by omega)).choose_spec.choose, fun w => (by_of_str w info (by omega)).choose_spec.choose_spec.1, fun w => (by_of_str w info (by omega)).choose_spec.choose_spec.2⟩
  have HU := Lib.hid hUinfo
  have HCV := Lib.hid hcv
  clear hUinfo
  have cT : ∀ w', Tch [] W1 w' → Tch [] w w' := fun w' h => T1.out.trans h
  have CT := Lib.hid cT
  clear cT
  have HP2 : Hid (PRd (World.alloc (Uinfo (W1.drewN 1)) (.cells #[.slice prkp prk.length prkc, .slice (some ⟨(W1.drewN 1).heap.size, 0, none⟩) info.size (xinfo (W1.drewN 1))] 24)) (.slice (some ⟨(Uinfo (W1.drewN 1)).heap.size, 0, none⟩) 2 2) [prk, info.data.toList]) := prd_two (Rprk.out.tchNil (T1.out.trans ((Tch.drewN W1 1).trans (HU.out (W1.drewN 1)).out.1))) (HU.out (W1.drewN 1)).out.2
  have TP2 : Hid (Tch [] W1 (World.alloc (Uinfo (W1.drewN 1)) (.cells #[.slice prkp prk.length prkc, .slice (some ⟨(W1.drewN 1).heap.size, 0, none⟩) info.size (xinfo (W1.drewN 1))] 24))) := ((Tch.drewN W1 1).trans (HU.out (W1.drewN 1)).out.1).trans (Tch.alloc _ _)
  have TU : Hid (Tch [] W1 (Uinfo (W1.drewN 1))) := (Tch.drewN W1 1).trans (HU.out (W1.drewN 1)).out.1
  have HLS : Hid (∀ p ∈ [prk, info.data.toList], p.length ≤ 2147483647) := by
    intro p hp
    simp only [List.mem_cons, List.not_mem_nil, or_false] at hp
    have := ZLinfo.out
    rcases hp with rfl | rfl <;> omega
  by_cases hlong : 1048576 < [prk, info.data.toList].flatten.length
  · have HLG : Hid (decide (1048576 < [prk, info.data.toList].flatten.length) = true) := decide_eq_true hlong
    clear hlong
    go_wp2
    refine wp_region_any (by kernel_rfl) ?_
    change wpAny _ _ _ _ _ _ _ (World.drew _)
    refine wpAny_take (i := 0) (v := ?v1) rfl (by kernel_rfl) (by kernel_rfl) (by kernel_rfl) (fun _ _ _ h => h) (Or.inl ⟨by kernel_rfl, ?hy1⟩) ?rest1
    case hy1 => (intro w; go_simp; all_goals with_reducible rfl)
    try simp only [Act.put, List.getElem_toArray, List.getElem_cons_succ, List.getElem_cons_zero, List.setIfInBounds_toArray, List.set_cons_zero, List.set_cons_succ]
    refine wpAny_take (i := 1) (v := ?v2) rfl (by kernel_rfl) (by kernel_rfl) (by kernel_rfl) (fun _ _ _ h => h) (Or.inl ⟨by kernel_rfl, ?hy2⟩) ?rest2
    case hy2 => (intro w; go_simp; all_goals with_reducible rfl)
    try simp only [Act.put, List.getElem_toArray, List.getElem_cons_succ, List.getElem_cons_zero, List.setIfInBounds_toArray, List.set_cons_zero, List.set_cons_succ]
    refine wpAny_ready (rs := [2]) (by kernel_rfl) (by simp) ?_
    refine AllReady.cons rfl (fun K hK => ?_) AllReady.nil
    go_simp
    refine hK _ _ ?_
    clear hK K
    try simp only [Act.put, List.getElem_toArray, List.getElem_cons_succ, List.getElem_cons_zero, List.setIfInBounds_toArray, List.set_cons_zero, List.set_cons_succ]
    refine wpAny_ready (rs := [3]) (by kernel_rfl) (by simp) ?_
    refine AllReady.cons rfl (fun K hK => ?_) AllReady.nil
    go_simp
    refine hK _ _ ?_
    clear hK K
    try simp only [Act.put, List.getElem_toArray, List.getElem_cons_succ, List.getElem_cons_zero, List.setIfInBounds_toArray, List.set_cons_zero, List.set_cons_succ]
    refine wpAny_ready (rs := [4]) (by kernel_rfl) (by simp) ?_
    refine AllReady.cons rfl (fun K hK => ?_) AllReady.nil
    go_simp
    refine (lLong [prk, info.data.toList] _ _ HP2.out HLS.out).mono ?_; rintro e w2 ⟨rfl, hw2⟩; have t2 : Tch [] W1 w2 := (by rw [← hw2]; exact TP2.out); rw [HLG.out]
    dsimp only
    refine hK _ _ ?_
    clear hK K
    try simp only [Act.put, List.getElem_toArray, List.getElem_cons_succ, List.getElem_cons_zero, List.setIfInBounds_toArray, List.set_cons_zero, List.set_cons_succ]
    refine wpAny_take (i := 5) (v := ?v3) rfl (by kernel_rfl) (by kernel_rfl) (by kernel_rfl) (fun _ _ _ h => h) (Or.inl ⟨by kernel_rfl, ?hy3⟩) ?rest3
    case hy3 => (intro w; go_simp; all_goals with_reducible rfl)
    try simp only [Act.put, List.getElem_toArray, List.getElem_cons_succ, List.getElem_cons_zero, List.setIfInBounds_toArray, List.set_cons_zero, List.set_cons_succ]
    refine wpAny_take (i := 6) (v := undef) rfl (by kernel_rfl) (by kernel_rfl) (by kernel_rfl) (fun _ _ _ h => h) (Or.inr ⟨by kernel_rfl, rfl⟩) ?_
    try simp only [Act.put, List.getElem_toArray, List.getElem_cons_succ, List.getElem_cons_zero, List.setIfInBounds_toArray, List.set_cons_zero, List.set_cons_succ]
    refine wpAny_take (i := 7) (v := undef) rfl (by kernel_rfl) (by kernel_rfl) (by kernel_rfl) (fun _ _ _ h => h) (Or.inr ⟨by kernel_rfl, rfl⟩) ?_
    try simp only [Act.put, List.getElem_toArray, List.getElem_cons_succ, List.getElem_cons_zero, List.setIfInBounds_toArray, List.set_cons_zero, List.set_cons_succ]
    refine wpAny_take (i := 8) (v := undef) rfl (by kernel_rfl) (by kernel_rfl) (by kernel_rfl) (fun _ _ _ h => h) (Or.inr ⟨by kernel_rfl, rfl⟩) ?_
    try simp only [Act.put, List.getElem_toArray, List.getElem_cons_succ, List.getElem_cons_zero, List.setIfInBounds_toArray, List.set_cons_zero, List.set_cons_succ]
    refine wpAny_take (i := 9) (v := undef) rfl (by kernel_rfl) (by kernel_rfl) (by kernel_rfl) (fun _ _ _ h => h) (Or.inr ⟨by kernel_rfl, rfl⟩) ?_
    try simp only [Act.put, List.getElem_toArray, List.getElem_cons_succ, List.getElem_cons_zero, List.setIfInBounds_toArray, List.set_cons_zero, List.set_cons_succ]
    refine wpAny_take (i := 10) (v := undef) rfl (by kernel_rfl) (by kernel_rfl) (by kernel_rfl) (fun _ _ _ h => h) (Or.inr ⟨by kernel_rfl, rfl⟩) ?_
    try simp only [Act.put, List.getElem_toArray, List.getElem_cons_succ, List.getElem_cons_zero, List.setIfInBounds_toArray, List.set_cons_zero, List.set_cons_succ]
    refine wpAny_take (i := 11) (v := undef) rfl (by kernel_rfl) (by kernel_rfl) (by kernel_rfl) (fun _ _ _ h => h) (Or.inr ⟨by kernel_rfl, rfl⟩) ?_
    try simp only [Act.put, List.getElem_toArray, List.getElem_cons_succ, List.getElem_cons_zero, List.setIfInBounds_toArray, List.set_cons_zero, List.set_cons_succ]
    refine wpAny_take (i := 12) (v := undef) rfl (by kernel_rfl) (by kernel_rfl) (by kernel_rfl) (fun _ _ _ h => h) (Or.inr ⟨by kernel_rfl, rfl⟩) ?_
    try simp only [Act.put, List.getElem_toArray, List.getElem_cons_succ, List.getElem_cons_zero, List.setIfInBounds_toArray, List.set_cons_zero, List.set_cons_succ]
    refine wpAny_take (i := 13) (v := undef) rfl (by kernel_rfl) (by kernel_rfl) (by kernel_rfl) (fun _ _ _ h => h) (Or.inr ⟨by kernel_rfl, rfl⟩) ?_
    try simp only [Act.put, List.getElem_toArray, List.getElem_cons_succ, List.getElem_cons_zero, List.setIfInBounds_toArray, List.set_cons_zero, List.set_cons_succ]
    refine wpAny_take (i := 14) (v := undef) rfl (by kernel_rfl) (by kernel_rfl) (by kernel_rfl) (fun _ _ _ h => h) (Or.inr ⟨by kernel_rfl, rfl⟩) ?_
    try simp only [Act.put, List.getElem_toArray, List.getElem_cons_succ, List.getElem_cons_zero, List.setIfInBounds_toArray, List.set_cons_zero, List.set_cons_succ]
    refine wpAny_take (i := 15) (v := undef) rfl (by kernel_rfl) (by kernel_rfl) (by kernel_rfl) (fun _ _ _ h => h) (Or.inr ⟨by kernel_rfl, rfl⟩) ?_
    try simp only [Act.put, List.getElem_toArray, List.getElem_cons_succ, List.getElem_cons_zero, List.setIfInBounds_toArray, List.set_cons_zero, List.set_cons_succ]
    refine wpAny_take (i := 16) (v := ?v4) rfl (by kernel_rfl) (by kernel_rfl) (by kernel_rfl) (fun _ _ _ h => h) (Or.inl ⟨by kernel_rfl, ?hy4⟩) ?rest4
    case hy4 => (intro w; go_simp; all_goals with_reducible rfl)
    try simp only [Act.put, List.getElem_toArray, List.getElem_cons_succ, List.getElem_cons_zero, List.setIfInBounds_toArray, List.set_cons_zero, List.set_cons_succ]
    refine wpAny_done (by kernel_rfl) ?_ _
    go_wp2
    go_ret
    exact ⟨rfl, CT.out _ t2⟩
  · have HLG : Hid (decide (1048576 < [prk, info.data.toList].flatten.length) = false) := decide_eq_false hlong
    have HLEN : Hid (prk.length + info.size ≤ 1048576) := by
      simp only [List.flatten_cons, List.flatten_nil, List.append_nil, List.length_append] at hlong
      have := ZLinfo.out
      show _ ≤ _
      omega
    clear hlong
    go_wp2
    refine wp_region_held_drew (S := (fun w' => w'.cell? ⟨c, 0, none⟩ = some (.int .i64 k) ∧ w'.cell? ⟨c, 1, none⟩ = some (.int .i64 s) ∧ w'.cell? ⟨c, 2, none⟩ = some (.int .i64 bl))) (by kernel_rfl) ?_ (fun hHeld => ?_)
    focus (refine KA.out _ ?_; first | exact t4 | exact t3 | exact t2 | exact TU.out | exact TP2.out | exact Tch.drewN W1 1)
    refine wpAnyH_take (i := 0) (v := ?v5) rfl (by kernel_rfl) (by kernel_rfl) (by kernel_rfl) (fun _ _ _ h => h) (Or.inl ⟨by kernel_rfl, ?hy5⟩) (by assumption) ?rest5
    case hy5 => (intro w hSw; (try dsimp only at hSw); go_simp; all_goals with_reducible rfl)
    try simp only [Act.put, List.getElem_toArray, List.getElem_cons_succ, List.getElem_cons_zero, List.setIfInBounds_toArray, List.set_cons_zero, List.set_cons_succ]
    refine wpAnyH_take (i := 1) (v := ?v6) rfl (by kernel_rfl) (by kernel_rfl) (by kernel_rfl) (fun _ _ _ h => h) (Or.inl ⟨by kernel_rfl, ?hy6⟩) (by assumption) ?rest6
    case hy6 => (intro w hSw; (try dsimp only at hSw); go_simp; all_goals with_reducible rfl)
    try simp only [Act.put, List.getElem_toArray, List.getElem_cons_succ, List.getElem_cons_zero, List.setIfInBounds_toArray, List.set_cons_zero, List.set_cons_succ]
    refine wpAnyH_ready (rs := [2]) (by kernel_rfl) (by simp) ?_
    refine AllReadyH.cons rfl (fun K hK => ?_) AllReadyH.nil
    go_simp
    refine hK.out _ _ ?_ (fun hHeld => ?_)
    focus (refine KA.out _ ?_; first | exact t4 | exact t3 | exact t2 | exact TU.out | exact TP2.out | exact Tch.drewN W1 1)
    clear hK K
    try simp only [Act.put, List.getElem_toArray, List.getElem_cons_succ, List.getElem_cons_zero, List.setIfInBounds_toArray, List.set_cons_zero, List.set_cons_succ]
    refine wpAnyH_ready (rs := [3]) (by kernel_rfl) (by simp) ?_
    refine AllReadyH.cons rfl (fun K hK => ?_) AllReadyH.nil
    go_simp
    refine hK.out _ _ ?_ (fun hHeld => ?_)
    focus (refine KA.out _ ?_; first | exact t4 | exact t3 | exact t2 | exact TU.out | exact TP2.out | exact Tch.drewN W1 1)
    clear hK K
    try simp only [Act.put, List.getElem_toArray, List.getElem_cons_succ, List.getElem_cons_zero, List.setIfInBounds_toArray, List.set_cons_zero, List.set_cons_succ]
    refine wpAnyH_ready (rs := [4]) (by kernel_rfl) (by simp) ?_
    refine AllReadyH.cons rfl (fun K hK => ?_) AllReadyH.nil
    go_simp
    refine (lLong [prk, info.data.toList] _ _ HP2.out HLS.out).mono ?_; rintro e w2 ⟨rfl, hw2⟩; have t2 : Tch [] W1 w2 := (by rw [← hw2]; exact TP2.out); rw [HLG.out]
    dsimp only
    refine hK.out _ _ ?_ (fun hHeld => ?_)
    focus (refine KA.out _ ?_; first | exact t4 | exact t3 | exact t2 | exact TU.out | exact TP2.out | exact Tch.drewN W1 1)
    clear hK K
    try simp only [Act.put, List.getElem_toArray, List.getElem_cons_succ, List.getElem_cons_zero, List.setIfInBounds_toArray, List.set_cons_zero, List.set_cons_succ]
    refine wpAnyH_take (i := 5) (v := ?v7) rfl (by kernel_rfl) (by kernel_rfl) (by kernel_rfl) (fun _ _ _ h => h) (Or.inl ⟨by kernel_rfl, ?hy7⟩) (by assumption) ?rest7
    case hy7 => (intro w hSw; (try dsimp only at hSw); go_simp; all_goals with_reducible rfl)
    try simp only [Act.put, List.getElem_toArray, List.getElem_cons_succ, List.getElem_cons_zero, List.setIfInBounds_toArray, List.set_cons_zero, List.set_cons_succ]
    refine wpAnyH_take (i := 6) (v := ?v8) rfl (by kernel_rfl) (by kernel_rfl) (by kernel_rfl) (fun _ _ _ h => h) (Or.inl ⟨by kernel_rfl, ?hy8⟩) (by assumption) ?rest8
    case hy8 => (intro w hSw; (try dsimp only at hSw); go_simp; all_goals with_reducible rfl)
    try simp only [Act.put, List.getElem_toArray, List.getElem_cons_succ, List.getElem_cons_zero, List.setIfInBounds_toArray, List.set_cons_zero, List.set_cons_succ]
    refine wpAnyH_take (i := 7) (v := ?v9) rfl (by kernel_rfl) (by kernel_rfl) (by kernel_rfl) (fun _ _ _ h => h) (Or.inl ⟨by kernel_rfl, ?hy9⟩) (by assumption) ?rest9
    case hy9 => (intro w hSw; (try dsimp only at hSw); go_simp; all_goals with_reducible rfl)
    try simp only [Act.put, List.getElem_toArray, List.getElem_cons_succ, List.getElem_cons_zero, List.setIfInBounds_toArray, List.set_cons_zero, List.set_cons_succ]
    refine wpAnyH_take (i := 8) (v := ?v10) rfl (by kernel_rfl) (by kernel_rfl) (by kernel_rfl) (fun _ _ _ h => h) (Or.inl ⟨by kernel_rfl, ?hy10⟩) (by assumption) ?rest10
    case hy10 => (intro w hSw; (try dsimp only at hSw); go_simp; all_goals with_reducible rfl)
    try simp only [Act.put, List.getElem_toArray, List.getElem_cons_succ, List.getElem_cons_zero, List.setIfInBounds_toArray, List.set_cons_zero, List.set_cons_succ]
    refine wpAnyH_take (i := 9) (v := ?v11) rfl (by kernel_rfl) (by kernel_rfl) (by kernel_rfl) (fun _ _ _ h => h) (Or.inl ⟨by kernel_rfl, ?hy11⟩) (by assumption) ?rest11
    case hy11 => (intro w hSw; (try dsimp only at hSw); go_simp; all_goals with_reducible rfl)
    try simp only [Act.put, List.getElem_toArray, List.getElem_cons_succ, List.getElem_cons_zero, List.setIfInBounds_toArray, List.set_cons_zero, List.set_cons_succ]
    refine wpAnyH_take (i := 10) (v := ?v12) rfl (by kernel_rfl) (by kernel_rfl) (by kernel_rfl) (fun _ _ _ h => h) (Or.inl ⟨by kernel_rfl, ?hy12⟩) (by assumption) ?rest12
    case hy12 => (intro w hSw; (try dsimp only at hSw); go_simp; all_goals with_reducible rfl)
    try simp only [Act.put, List.getElem_toArray, List.getElem_cons_succ, List.getElem_cons_zero, List.setIfInBounds_toArray, List.set_cons_zero, List.set_cons_succ]
    refine wpAnyH_take (i := 11) (v := ?v13) rfl (by kernel_rfl) (by kernel_rfl) (by kernel_rfl) (fun _ _ _ h => h) (Or.inl ⟨by kernel_rfl, ?hy13⟩) (by assumption) ?rest13
    case hy13 => (intro w hSw; (try dsimp only at hSw); go_simp; all_goals with_reducible rfl)
    try simp only [Act.put, List.getElem_toArray, List.getElem_cons_succ, List.getElem_cons_zero, List.setIfInBounds_toArray, List.set_cons_zero, List.set_cons_succ]
    refine wpAnyH_take (i := 12) (v := ?v14) rfl (by kernel_rfl) (by kernel_rfl) (by kernel_rfl) (fun _ _ _ h => h) (Or.inl ⟨by kernel_rfl, ?hy14⟩) (by assumption) ?rest14
    case hy14 => (intro w hSw; (try dsimp only at hSw); go_simp; all_goals with_reducible rfl)
    try simp only [Act.put, List.getElem_toArray, List.getElem_cons_succ, List.getElem_cons_zero, List.setIfInBounds_toArray, List.set_cons_zero, List.set_cons_succ]
    refine wpAnyH_ready (rs := [13]) (by kernel_rfl) (by simp) ?_
    refine AllReadyH.cons rfl (fun K hK => ?_) AllReadyH.nil
    go_simp
    refine (sSize k s bl _).mono ?_; rintro e w3 ⟨rfl, h3⟩; have t3 : Tch [] W1 w3 := t2.trans h3.out; rw [← HZ.out]
    dsimp only
    refine hK.out _ _ ?_ (fun hHeld => ?_)
    focus (refine KA.out _ ?_; first | exact t4 | exact t3 | exact t2 | exact TU.out | exact TP2.out | exact Tch.drewN W1 1)
    clear hK K
    try simp only [Act.put, List.getElem_toArray, List.getElem_cons_succ, List.getElem_cons_zero, List.setIfInBounds_toArray, List.set_cons_zero, List.set_cons_succ]
    refine wpAnyH_take (i := 14) (v := ?v15) rfl (by kernel_rfl) (by kernel_rfl) (by kernel_rfl) (fun _ _ _ h => h) (Or.inl ⟨by kernel_rfl, ?hy15⟩) (by assumption) ?rest15
    case hy15 => (intro w hSw; (try dsimp only at hSw); go_simp; all_goals with_reducible rfl)
    try simp only [Act.put, List.getElem_toArray, List.getElem_cons_succ, List.getElem_cons_zero, List.setIfInBounds_toArray, List.set_cons_zero, List.set_cons_succ]
    refine wpAnyH_ready (rs := [15]) (by kernel_rfl) (by simp) ?_
    refine AllReadyH.cons rfl (fun K hK => ?_) AllReadyH.nil
    go_simp
    refine (lHeavy k s bl _ _ _ _).mono ?_; rintro e w4 ⟨hv, rfl, h4⟩; have t4 : Tch [] W1 w4 := t3.trans h4.out
    dsimp only
    refine hK.out _ _ ?_ (fun hHeld => ?_)
    focus (refine KA.out _ ?_; first | exact t4 | exact t3 | exact t2 | exact TU.out | exact TP2.out | exact Tch.drewN W1 1)
    clear hK K
    try simp only [Act.put, List.getElem_toArray, List.getElem_cons_succ, List.getElem_cons_zero, List.setIfInBounds_toArray, List.set_cons_zero, List.set_cons_succ]
    refine wpAnyH_take (i := 16) (v := ?v16) rfl (by kernel_rfl) (by kernel_rfl) (by kernel_rfl) (fun _ _ _ h => h) (Or.inl ⟨by kernel_rfl, ?hy16⟩) (by assumption) ?rest16
    case hy16 => (intro w hSw; (try dsimp only at hSw); go_simp; all_goals with_reducible rfl)
    try simp only [Act.put, List.getElem_toArray, List.getElem_cons_succ, List.getElem_cons_zero, List.setIfInBounds_toArray, List.set_cons_zero, List.set_cons_succ]
    refine wpAnyH_done (by kernel_rfl) ?_ _
    have T4 : Hid (Tch [] w w4) := CT.out _ t4
    obtain ⟨d0, d1, d2⟩ := KA.out _ t4
    have t4' := Lib.hid t4
    clear t4 t3 t2 h3 h4 hw2 c0 c1 c2 hcv HP2 TP2 TU KA HLS HLG
    cases hv with
    | true =>
      go_wp2
      go_ret
      exact ⟨rfl, T4.out⟩
    | false =>
      go_wp2
      refine J2.out _ _ (wp_seq_k (fun K3 k3 => ?_))
      have J3 := Lib.hid k3
      clear k3
      obtain ⟨I, hI⟩ : ∃ I : Nat, I = 1 + kkn % 255 := ⟨_, rfl⟩
      have eI : (1 : Int) + (kkn : Int) % 255 = (I : Int) := by omega
      have bI : (I : Int) ≤ 255 := by omega
      have bI1 : (1 : Int) ≤ I := by omega
      have HI1 : Hid (1 ≤ I ∧ I ≤ 255) := by show _ ∧ _; omega
      clear hI
      go_wp2
      refine J3.out _ _ (wp_seq_k (fun K4 k4 => ?_))
      have J4 := Lib.hid k4
      clear k4 eI
      go_wp2_with (fail)
      refine (sSize k s bl w4).mono ?_
      rintro e W5 ⟨rfl, h5⟩
      have T5 : Hid (Tch [] w W5) := T4.out.trans h5.out
      have c0 := h5.out.cell d0 (by simp)
      have c1 := h5.out.cell d1 (by simp)
      have c2 := h5.out.cell d2 (by simp)
      rw [← HZ.out]
      clear h5 d0 d1 d2
      go_wp2
      refine J4.out _ _ (wp_seq_k (fun K5 k5 => ?_))
      have J5 := Lib.hid k5
      clear k5
      obtain ⟨J, hJ⟩ : ∃ J : Nat, J + 1 = I := ⟨I - 1, by have := HI1.out; omega⟩
      obtain ⟨A, hA⟩ : ∃ A : Nat, A = I * Z := ⟨_, rfl⟩
      obtain ⟨B, hB⟩ : ∃ B : Nat, B = J * Z := ⟨_, rfl⟩
      have eA : (I : Int) * (Z : Int) = (A : Int) := by rw [hA]; push_cast; rfl
      have eJ : (I : Int) - 1 = (J : Int) := by omega
      have eB : (J : Int) * (Z : Int) = (B : Int) := by rw [hB]; push_cast; rfl
      have hAB : A = B + Z := by rw [hA, hB, ← hJ, Nat.add_mul]; omega
      have hB2 : B ≤ 8160 := by rw [hB]; have := Nat.mul_le_mul (show J ≤ 255 by omega) (show Z ≤ 32 by omega); omega
      have hA255 : A ≤ 255 * Z := by rw [hA]; exact Nat.mul_le_mul_right Z HI1.out.2
      have bA : (A : Int) ≤ 8192 := by omega
      have bB : (B : Int) ≤ 8160 := by omega
      have bJ : (J : Int) ≤ 255 := by omega
      have HAB := Lib.hid hAB
      have HB := Lib.hid hB
      have HA := Lib.hid hA
      have HJ := Lib.hid hJ
      have HA5 := Lib.hid hA255
      clear hA hB hJ hB2 hAB hA255
      go_wp2_with (fail)
      refine (iExpand kt k s bl prk info A _ _ (HK.out.tch T5.out (by simp)) (Rprk.out.tchNil T5.out) (by have := HLEN.out; omega) (by omega) (by rw [← HZ.out]; exact HA5.out)).mono ?_
      rintro e W6 ⟨v6, rfl, h6⟩
      have t6 := h6.out.tchNil
      have T6 : Hid (Tch [] w W6) := T5.out.trans t6
      have d0 := t6.cell c0 (by simp)
      have d1 := t6.cell c1 (by simp)
      have d2 := t6.cell c2 (by simp)
      have R6 : Hid (Rd W6 v6 (expand (kindOf kt k s bl) prk info.data.toList A)) := h6.out.1.rd
      have N6 : Hid (Nm v6) := h6.out.1.nm
      have hl6 : (expand (kindOf kt k s bl) prk info.data.toList A).length = A := expand_length (kindOf_ok kt k s bl) _ _ _
      obtain ⟨p6, n6, rfl⟩ := rd_ex R6.out
      rw [hl6] at R6 N6 ⊢
      clear h6 t6 hl6 c0 c1 c2
      have ezs : (kindOf kt k s bl).size = Z := by rw [kind_size, HZ.out]
      have HZS := Lib.hid ezs
      have HEX : expand (kindOf kt k s bl) prk info.data.toList A = expAll (kindOf kt k s bl) prk info.data.toList I := by rw [HA.out, ← ezs]; exact expand_mul (kindOf_ok kt k s bl) _ _ _
      have hl6 : (expand (kindOf kt k s bl) prk info.data.toList A).length = A := expand_length (kindOf_ok kt k s bl) _ _ _
      have cap6 : A ≤ n6 := by obtain ⟨p, cap, hv, hc, _⟩ := R6.out; simp only [Value.slice.injEq] at hv; obtain ⟨_, _, rfl⟩ := hv; rw [hl6] at hc; exact hc
      have D6 : Hid (Rd W6 (cut (.slice p6 A n6) B) (expT (kindOf kt k s bl) prk info.data.toList (J + 1))) := by
        have := (cut_rd R6.out N6.out B (by rw [hl6, HAB.out]; omega)).1
        rw [HEX] at this
        have e := expAll_last (kindOf kt k s bl) prk info.data.toList J
        rw [ezs, ← HB.out, HJ.out] at e
        rw [e, ← HJ.out] at this
        exact this
      have M6 : Hid (∀ J', J' + 1 = J → Rd W6 (mid (.slice p6 A n6) (J' * Z) B) (expT (kindOf kt k s bl) prk info.data.toList J)) := by
        intro J' hJ'
        have hle : J' * Z ≤ B := by rw [HB.out]; exact Nat.mul_le_mul_right Z (by omega)
        have := (mid_rd R6.out N6.out (J' * Z) B hle (by rw [hl6, HAB.out]; omega)).1
        rw [HEX] at this
        have e := expAll_ahead (kindOf kt k s bl) prk info.data.toList J'
        rw [ezs, show J' + 2 = I by have := HJ.out; omega, hJ', ← HB.out] at e
        rw [e] at this
        exact this
      have CAP6 := Lib.hid cap6
      have hs1 := fun w => run_cut w _ A n6 B p6 rfl N6.out (by have := HAB.out; omega) CAP6.out
      have HR2 : Hid (∀ J' (w : World), J' + 1 = J → (Instr.slice 24 (.slice p6 A n6) (some (.int .i64 ((J' * Z : Nat) : Int))) (some (.int .i64 (B : Int))) none).run Try.prog w = .ok (mid (.slice p6 A n6) (J' * Z) B) w) := by
        intro J' w hJ'
        have hle : J' * Z ≤ B := by rw [HB.out]; exact Nat.mul_le_mul_right Z (by omega)
        exact run_mid w _ A n6 (J' * Z) B p6 rfl N6.out hle (by have := CAP6.out; have := HAB.out; omega)
      clear HEX hl6 ezs cap6
      have wA : IntKind.i64.wrap (A : Int) = A := by rw [IntKind.wrap_i64]; omega
      have wB : IntKind.i64.wrap (B : Int) = B := by rw [IntKind.wrap_i64]; omega
      have wJ : IntKind.i64.wrap (J : Int) = J := by rw [IntKind.wrap_i64]; omega
      obtain ⟨b3, hb3⟩ : ∃ b3 : UInt8, b3 = UInt8.ofNat I := ⟨_, rfl⟩
      have v0 : IntKind.u8.wrap (I : Int) = ib b3 := by rw [hb3]; exact Ar.wrap_of8 _
      have HV0 := Lib.hid v0
      have HEQ : Hid (decide (expT (kindOf kt k s bl) prk info.data.toList (J + 1) = mac (kindOf kt k s bl) prk [expT (kindOf kt k s bl) prk info.data.toList J, info.data.toList, [b3]].flatten) = true) := by
        refine decide_eq_true ?_
        rw [hb3, ← HJ.out]
        simp [expT]
      clear hb3 v0
      have HL4 : Hid ((expT (kindOf kt k s bl) prk info.data.toList J).length ≤ 32) := by
        show _ ≤ _
        cases J with
        | zero => simp [expT]
        | succ J => rw [expT_length]; exact (kindOf_ok kt k s bl).size_le
      obtain ⟨qc, hqc⟩ : ∃ q, cut (.slice p6 A n6) B = .slice q (A - B) (n6 - B) := by cases p6 <;> exact ⟨_, rfl⟩
      rw [hqc] at hs1 D6
      clear hqc
      go_wp2
      refine J5.out _ _ (wp_seq_k (fun K6 k6 => ?_))
      have J6 := Lib.hid k6
      clear k6
      go_wp2
      refine J6.out _ _ (wp_seq_k (fun K7 k7 => ?_))
      have J7 := Lib.hid k7
      clear k7
      go_wp2
      generalize hW7 : World.alloc _ _ = W7
      have U7 : Hid (Tch [] W6 W7) := by rw [← hW7]; exact Tch.alloc _ _
      have E7 : Hid (Rd W7 (.slice (some ⟨W6.heap.size, 0, none⟩) 0 0) []) := ⟨_, _, rfl, Nat.le_refl _, by unfold maxLen; omega, .inl rfl⟩
      have KA : Hid (∀ w', Tch [] W7 w' → (w'.cell? ⟨c, 0, none⟩ = some (.int .i64 k) ∧ w'.cell? ⟨c, 1, none⟩ = some (.int .i64 s) ∧ w'.cell? ⟨c, 2, none⟩ = some (.int .i64 bl))) := fun w' h => ⟨(U7.out.trans h).cell d0 (by simp), (U7.out.trans h).cell d1 (by simp), (U7.out.trans h).cell d2 (by simp)⟩
      clear hW7 d0 d1 d2
      have D7 := Lib.hid (D6.out.tchNil U7.out)
      have T7 := Lib.hid (T6.out.trans U7.out)
      refine J7.out _ _ (wp_seq_k (fun K8 k8 => ?_))
      have J8 := Lib.hid k8
      clear k8
      by_cases h1 : J = 0
      · have i1 : ¬ ((1 : Int) < (I : Int)) := by have := HJ.out; omega
        have S7 : Hid (Rd W7 (.slice (some ⟨W6.heap.size, 0, none⟩) 0 0) (expT (kindOf kt k s bl) prk info.data.toList J)) := by rw [h1]; exact E7.out
        clear h1
        go_wp2
        have hcv := HCV.out
        have v0 := HV0.out
        refine J8.out _ _ (wp_seq_k (fun K9 k9 => ?_))
        have J9 := Lib.hid k9
        clear k9
        refine wp_region_held_drew (S := (fun w' => w'.cell? ⟨c, 0, none⟩ = some (.int .i64 k) ∧ w'.cell? ⟨c, 1, none⟩ = some (.int .i64 s) ∧ w'.cell? ⟨c, 2, none⟩ = some (.int .i64 bl))) (by kernel_rfl) ?_ (fun hHeld => ?_)
        focus (refine KA.out _ ?_; (repeat (first | exact t8 | exact Tch.refl _ _ | exact Tch.drewN W7 1 | refine Tch.trans ?_ (Tch.alloc _ _) | refine Tch.trans ?_ (HU.out _).out.1 | refine Tch.trans ?_ (Tch.drewN _ 1))))
        refine wpAnyH_take (i := 0) (v := ?v17) rfl (by kernel_rfl) (by kernel_rfl) (by kernel_rfl) (fun _ _ _ h => h) (Or.inl ⟨by kernel_rfl, ?hy17⟩) (by assumption) ?rest17
        case hy17 => (intro w hSw; (try dsimp only at hSw); go_simp; all_goals with_reducible rfl)
        try simp only [Act.put, List.getElem_toArray, List.getElem_cons_succ, List.getElem_cons_zero, List.setIfInBounds_toArray, List.set_cons_zero, List.set_cons_succ]
        refine wpAnyH_take (i := 1) (v := ?v18) rfl (by kernel_rfl) (by kernel_rfl) (by kernel_rfl) (fun _ _ _ h => h) (Or.inl ⟨by kernel_rfl, ?hy18⟩) (by assumption) ?rest18
        case hy18 => (intro w hSw; (try dsimp only at hSw); go_simp; all_goals with_reducible rfl)
        try simp only [Act.put, List.getElem_toArray, List.getElem_cons_succ, List.getElem_cons_zero, List.setIfInBounds_toArray, List.set_cons_zero, List.set_cons_succ]
        refine wpAnyH_take (i := 2) (v := ?v19) rfl (by kernel_rfl) (by kernel_rfl) (by kernel_rfl) (fun _ _ _ h => h) (Or.inl ⟨by kernel_rfl, ?hy19⟩) (by assumption) ?rest19
        case hy19 => (intro w hSw; (try dsimp only at hSw); go_simp; all_goals with_reducible rfl)
        try simp only [Act.put, List.getElem_toArray, List.getElem_cons_succ, List.getElem_cons_zero, List.setIfInBounds_toArray, List.set_cons_zero, List.set_cons_succ]
        refine wpAnyH_take (i := 3) (v := ?v20) rfl (by kernel_rfl) (by kernel_rfl) (by kernel_rfl) (fun _ _ _ h => h) (Or.inl ⟨by kernel_rfl, ?hy20⟩) (by assumption) ?rest20
        case hy20 => (intro w hSw; (try dsimp only at hSw); go_simp; all_goals with_reducible rfl)
        try simp only [Act.put, List.getElem_toArray, List.getElem_cons_succ, List.getElem_cons_zero, List.setIfInBounds_toArray, List.set_cons_zero, List.set_cons_succ]
        refine wpAnyH_take (i := 4) (v := ?v21) rfl (by kernel_rfl) (by kernel_rfl) (by kernel_rfl) (fun _ _ _ h => h) (Or.inl ⟨by kernel_rfl, ?hy21⟩) (by assumption) ?rest21
        case hy21 => (intro w hSw; (try dsimp only at hSw); go_simp; all_goals with_reducible rfl)
        try simp only [Act.put, List.getElem_toArray, List.getElem_cons_succ, List.getElem_cons_zero, List.setIfInBounds_toArray, List.set_cons_zero, List.set_cons_succ]
        refine wpAnyH_take (i := 5) (v := ?v22) rfl (by kernel_rfl) (by kernel_rfl) (by kernel_rfl) (fun _ _ _ h => h) (Or.inl ⟨by kernel_rfl, ?hy22⟩) (by assumption) ?rest22
        case hy22 => (intro w hSw; (try dsimp only at hSw); go_simp; all_goals with_reducible rfl)
        try simp only [Act.put, List.getElem_toArray, List.getElem_cons_succ, List.getElem_cons_zero, List.setIfInBounds_toArray, List.set_cons_zero, List.set_cons_succ]
        refine wpAnyH_take (i := 6) (v := ?v23) rfl (by kernel_rfl) (by kernel_rfl) (by kernel_rfl) (fun _ _ _ h => h) (Or.inl ⟨by kernel_rfl, ?hy23⟩) (by assumption) ?rest23
        case hy23 => (intro w hSw; (try dsimp only at hSw); go_simp; all_goals with_reducible rfl)
        try simp only [Act.put, List.getElem_toArray, List.getElem_cons_succ, List.getElem_cons_zero, List.setIfInBounds_toArray, List.set_cons_zero, List.set_cons_succ]
        refine wpAnyH_take (i := 7) (v := ?v24) rfl (by kernel_rfl) (by kernel_rfl) (by kernel_rfl) (fun _ _ _ h => h) (Or.inl ⟨by kernel_rfl, ?hy24⟩) (by assumption) ?rest24
        case hy24 => (intro w hSw; (try dsimp only at hSw); go_simp; all_goals with_reducible rfl)
        try simp only [Act.put, List.getElem_toArray, List.getElem_cons_succ, List.getElem_cons_zero, List.setIfInBounds_toArray, List.set_cons_zero, List.set_cons_succ]
        refine wpAnyH_take (i := 8) (v := ?v25) rfl (by kernel_rfl) (by kernel_rfl) (by kernel_rfl) (fun _ _ _ h => h) (Or.inl ⟨by kernel_rfl, ?hy25⟩) (by assumption) ?rest25
        case hy25 => (intro w hSw; (try dsimp only at hSw); go_simp; all_goals with_reducible rfl)
        try simp only [Act.put, List.getElem_toArray, List.getElem_cons_succ, List.getElem_cons_zero, List.setIfInBounds_toArray, List.set_cons_zero, List.set_cons_succ]
        refine wpAnyH_take (i := 9) (v := ?v26) rfl (by kernel_rfl) (by kernel_rfl) (by kernel_rfl) (fun _ _ _ h => h) (Or.inl ⟨by kernel_rfl, ?hy26⟩) (by assumption) ?rest26
        case hy26 => (intro w hSw; (try dsimp only at hSw); go_simp; all_goals with_reducible rfl)
        try simp only [Act.put, List.getElem_toArray, List.getElem_cons_succ, List.getElem_cons_zero, List.setIfInBounds_toArray, List.set_cons_zero, List.set_cons_succ]
        refine wpAnyH_take (i := 11) (v := ?v27) rfl (by kernel_rfl) (by kernel_rfl) (by kernel_rfl) (fun _ _ _ h => h) (Or.inl ⟨by kernel_rfl, ?hy27⟩) (by assumption) ?rest27
        case hy27 => (intro w hSw; (try dsimp only at hSw); go_simp; all_goals with_reducible rfl)
        try simp only [Act.put, List.getElem_toArray, List.getElem_cons_succ, List.getElem_cons_zero, List.setIfInBounds_toArray, List.set_cons_zero, List.set_cons_succ]
        refine wpAnyH_take (i := 12) (v := ?v28) rfl (by kernel_rfl) (by kernel_rfl) (by kernel_rfl) (fun _ _ _ h => h) (Or.inl ⟨by kernel_rfl, ?hy28⟩) (by assumption) ?rest28
        case hy28 => (intro w hSw; (try dsimp only at hSw); go_simp; all_goals with_reducible rfl)
        try simp only [Act.put, List.getElem_toArray, List.getElem_cons_succ, List.getElem_cons_zero, List.setIfInBounds_toArray, List.set_cons_zero, List.set_cons_succ]
        refine wpAnyH_ready (rs := [10, 13]) (by kernel_rfl) (by simp) ?_
        refine AllReadyH.cons rfl (fun K hK => ?_) (AllReadyH.cons rfl (fun K hK => ?_) AllReadyH.nil)
        · go_simp
          refine hK.out _ _ ?_ (fun hHeld => ?_)
          focus (refine KA.out _ ?_; (repeat (first | exact t8 | exact Tch.refl _ _ | exact Tch.drewN W7 1 | refine Tch.trans ?_ (Tch.alloc _ _) | refine Tch.trans ?_ (HU.out _).out.1 | refine Tch.trans ?_ (Tch.drewN _ 1))))
          clear hK K
          try simp only [Act.put, List.getElem_toArray, List.getElem_cons_succ, List.getElem_cons_zero, List.setIfInBounds_toArray, List.set_cons_zero, List.set_cons_succ]
          refine wpAnyH_ready (rs := [13]) (by kernel_rfl) (by simp) ?_
          refine AllReadyH.cons rfl (fun K hK => ?_) AllReadyH.nil
          go_simp
          refine hK.out _ _ ?_ (fun hHeld => ?_)
          focus (refine KA.out _ ?_; (repeat (first | exact t8 | exact Tch.refl _ _ | exact Tch.drewN W7 1 | refine Tch.trans ?_ (Tch.alloc _ _) | refine Tch.trans ?_ (HU.out _).out.1 | refine Tch.trans ?_ (Tch.drewN _ 1))))
          clear hK K
          try simp only [Act.put, List.getElem_toArray, List.getElem_cons_succ, List.getElem_cons_zero, List.setIfInBounds_toArray, List.set_cons_zero, List.set_cons_succ]
          refine wpAnyH_ready (rs := [14]) (by kernel_rfl) (by simp) ?_
          refine AllReadyH.cons rfl (fun K hK => ?_) AllReadyH.nil
          go_simp
          refine hK.out _ _ ?_ (fun hHeld => ?_)
          focus (refine KA.out _ ?_; (repeat (first | exact t8 | exact Tch.refl _ _ | exact Tch.drewN W7 1 | refine Tch.trans ?_ (Tch.alloc _ _) | refine Tch.trans ?_ (HU.out _).out.1 | refine Tch.trans ?_ (Tch.drewN _ 1))))
          clear hK K
          try simp only [Act.put, List.getElem_toArray, List.getElem_cons_succ, List.getElem_cons_zero, List.setIfInBounds_toArray, List.set_cons_zero, List.set_cons_succ]
          refine wpAnyH_ready (rs := [15]) (by kernel_rfl) (by simp) ?_
          refine AllReadyH.cons rfl (fun K hK => ?_) AllReadyH.nil
          go_simp
          refine (iMac kt k s bl prk [expT (kindOf kt k s bl) prk info.data.toList J, info.data.toList, [b3]] _ _ _ (HK.out.tch (T7.out.trans ?_) (by simp)) (Rprk.out.tchNil (T7.out.trans ?_)) (by have := HLEN.out; omega) (prd_at3 ?_ (S7.out.tchNil ?_) (rd_blk (((HU.out _).out.2.tchNil (Tch.alloc _ _)).tchNil (Tch.alloc _ _)) (by first | rfl | (simp; done))) (rd_blk ((rd_cells _ [b3] _ 1 (by simp) (by simp) (by simp [vb])).tchNil (Tch.alloc _ _)) (by first | rfl | (simp; done)))) (by have := HLEN.out; have := ZLinfo.out; have := HL4.out; simp; omega)).mono ?_; (focus ((repeat (first | exact t8 | exact Tch.refl _ _ | exact Tch.drewN W7 1 | refine Tch.trans ?_ (Tch.alloc _ _) | refine Tch.trans ?_ (HU.out _).out.1 | refine Tch.trans ?_ (Tch.drewN _ 1))))); (focus ((repeat (first | exact t8 | exact Tch.refl _ _ | exact Tch.drewN W7 1 | refine Tch.trans ?_ (Tch.alloc _ _) | refine Tch.trans ?_ (HU.out _).out.1 | refine Tch.trans ?_ (Tch.drewN _ 1))))); (focus (first | rfl | simp)); (focus ((repeat (first | exact t8 | exact Tch.refl _ _ | exact Tch.drewN W7 1 | refine Tch.trans ?_ (Tch.alloc _ _) | refine Tch.trans ?_ (HU.out _).out.1 | refine Tch.trans ?_ (Tch.drewN _ 1))))); rintro e w8 ⟨v8, rfl, h8⟩; have t8 : Tch [] W7 w8 := by { refine Tch.trans ?_ h8.out.tchNil; (repeat (first | exact t8 | exact Tch.refl _ _ | exact Tch.drewN W7 1 | refine Tch.trans ?_ (Tch.alloc _ _) | refine Tch.trans ?_ (HU.out _).out.1 | refine Tch.trans ?_ (Tch.drewN _ 1))) }
          dsimp only
          refine hK.out _ _ ?_ (fun hHeld => ?_)
          focus (refine KA.out _ ?_; (repeat (first | exact t8 | exact Tch.refl _ _ | exact Tch.drewN W7 1 | refine Tch.trans ?_ (Tch.alloc _ _) | refine Tch.trans ?_ (HU.out _).out.1 | refine Tch.trans ?_ (Tch.drewN _ 1))))
          clear hK K
          try simp only [Act.put, List.getElem_toArray, List.getElem_cons_succ, List.getElem_cons_zero, List.setIfInBounds_toArray, List.set_cons_zero, List.set_cons_succ]
          refine wpAnyH_ready (rs := [16]) (by kernel_rfl) (by simp) ?_
          refine AllReadyH.cons rfl (fun K hK => ?_) AllReadyH.nil
          go_simp
          refine (lSame _ _ _ _ w8 (D7.out.tchNil t8) h8.out.1.rd).mono ?_; rintro e w9 ⟨rfl, rfl⟩; rw [HEQ.out]
          dsimp only
          refine hK.out _ _ ?_ (fun hHeld => ?_)
          focus (refine KA.out _ ?_; (repeat (first | exact t8 | exact Tch.refl _ _ | exact Tch.drewN W7 1 | refine Tch.trans ?_ (Tch.alloc _ _) | refine Tch.trans ?_ (HU.out _).out.1 | refine Tch.trans ?_ (Tch.drewN _ 1))))
          clear hK K
          try simp only [Act.put, List.getElem_toArray, List.getElem_cons_succ, List.getElem_cons_zero, List.setIfInBounds_toArray, List.set_cons_zero, List.set_cons_succ]
          refine wpAnyH_take (i := 17) (v := ?v29) rfl (by kernel_rfl) (by kernel_rfl) (by kernel_rfl) (fun _ _ _ h => h) (Or.inl ⟨by kernel_rfl, ?hy29⟩) (by assumption) ?rest29
          case hy29 => (intro w hSw; (try dsimp only at hSw); go_simp; all_goals with_reducible rfl)
          try simp only [Act.put, List.getElem_toArray, List.getElem_cons_succ, List.getElem_cons_zero, List.setIfInBounds_toArray, List.set_cons_zero, List.set_cons_succ]
          refine wpAnyH_done (by kernel_rfl) ?_ _
          go_wp2
          refine J9.out _ _ ?_
          go_wp2
          go_ret
          exact ⟨rfl, T7.out.trans t8⟩
        · go_simp
          refine hK.out _ _ ?_ (fun hHeld => ?_)
          focus (refine KA.out _ ?_; (repeat (first | exact t8 | exact Tch.refl _ _ | exact Tch.drewN W7 1 | refine Tch.trans ?_ (Tch.alloc _ _) | refine Tch.trans ?_ (HU.out _).out.1 | refine Tch.trans ?_ (Tch.drewN _ 1))))
          clear hK K
          try simp only [Act.put, List.getElem_toArray, List.getElem_cons_succ, List.getElem_cons_zero, List.setIfInBounds_toArray, List.set_cons_zero, List.set_cons_succ]
          refine wpAnyH_ready (rs := [10]) (by kernel_rfl) (by simp) ?_
          refine AllReadyH.cons rfl (fun K hK => ?_) AllReadyH.nil
          go_simp
          refine hK.out _ _ ?_ (fun hHeld => ?_)
          focus (refine KA.out _ ?_; (repeat (first | exact t8 | exact Tch.refl _ _ | exact Tch.drewN W7 1 | refine Tch.trans ?_ (Tch.alloc _ _) | refine Tch.trans ?_ (HU.out _).out.1 | refine Tch.trans ?_ (Tch.drewN _ 1))))
          clear hK K
          try simp only [Act.put, List.getElem_toArray, List.getElem_cons_succ, List.getElem_cons_zero, List.setIfInBounds_toArray, List.set_cons_zero, List.set_cons_succ]
          refine wpAnyH_ready (rs := [14]) (by kernel_rfl) (by simp) ?_
          refine AllReadyH.cons rfl (fun K hK => ?_) AllReadyH.nil
          go_simp
          refine hK.out _ _ ?_ (fun hHeld => ?_)
          focus (refine KA.out _ ?_; (repeat (first | exact t8 | exact Tch.refl _ _ | exact Tch.drewN W7 1 | refine Tch.trans ?_ (Tch.alloc _ _) | refine Tch.trans ?_ (HU.out _).out.1 | refine Tch.trans ?_ (Tch.drewN _ 1))))
          clear hK K
          try simp only [Act.put, List.getElem_toArray, List.getElem_cons_succ, List.getElem_cons_zero, List.setIfInBounds_toArray, List.set_cons_zero, List.set_cons_succ]
          refine wpAnyH_ready (rs := [15]) (by kernel_rfl) (by simp) ?_
          refine AllReadyH.cons rfl (fun K hK => ?_) AllReadyH.nil
          go_simp
          refine (iMac kt k s bl prk [expT (kindOf kt k s bl) prk info.data.toList J, info.data.toList, [b3]] _ _ _ (HK.out.tch (T7.out.trans ?_) (by simp)) (Rprk.out.tchNil (T7.out.trans ?_)) (by have := HLEN.out; omega) (prd_at3 ?_ (S7.out.tchNil ?_) (rd_blk ((HU.out _).out.2.tchNil (Tch.alloc _ _)) (by first | rfl | (simp; done))) (rd_blk ((((rd_cells _ [b3] _ 1 (by simp) (by simp) (by simp [vb])).tchNil (Tch.drewN _ 1)).tchNil (HU.out _).out.1).tchNil (Tch.alloc _ _)) (by first | rfl | (simp; done)))) (by have := HLEN.out; have := ZLinfo.out; have := HL4.out; simp; omega)).mono ?_; (focus ((repeat (first | exact t8 | exact Tch.refl _ _ | exact Tch.drewN W7 1 | refine Tch.trans ?_ (Tch.alloc _ _) | refine Tch.trans ?_ (HU.out _).out.1 | refine Tch.trans ?_ (Tch.drewN _ 1))))); (focus ((repeat (first | exact t8 | exact Tch.refl _ _ | exact Tch.drewN W7 1 | refine Tch.trans ?_ (Tch.alloc _ _) | refine Tch.trans ?_ (HU.out _).out.1 | refine Tch.trans ?_ (Tch.drewN _ 1))))); (focus (first | rfl | simp)); (focus ((repeat (first | exact t8 | exact Tch.refl _ _ | exact Tch.drewN W7 1 | refine Tch.trans ?_ (Tch.alloc _ _) | refine Tch.trans ?_ (HU.out _).out.1 | refine Tch.trans ?_ (Tch.drewN _ 1))))); rintro e w8 ⟨v8, rfl, h8⟩; have t8 : Tch [] W7 w8 := by { refine Tch.trans ?_ h8.out.tchNil; (repeat (first | exact t8 | exact Tch.refl _ _ | exact Tch.drewN W7 1 | refine Tch.trans ?_ (Tch.alloc _ _) | refine Tch.trans ?_ (HU.out _).out.1 | refine Tch.trans ?_ (Tch.drewN _ 1))) }
          dsimp only
          refine hK.out _ _ ?_ (fun hHeld => ?_)
          focus (refine KA.out _ ?_; (repeat (first | exact t8 | exact Tch.refl _ _ | exact Tch.drewN W7 1 | refine Tch.trans ?_ (Tch.alloc _ _) | refine Tch.trans ?_ (HU.out _).out.1 | refine Tch.trans ?_ (Tch.drewN _ 1))))
          clear hK K
          try simp only [Act.put, List.getElem_toArray, List.getElem_cons_succ, List.getElem_cons_zero, List.setIfInBounds_toArray, List.set_cons_zero, List.set_cons_succ]
          refine wpAnyH_ready (rs := [16]) (by kernel_rfl) (by simp) ?_
          refine AllReadyH.cons rfl (fun K hK => ?_) AllReadyH.nil
          go_simp
          refine (lSame _ _ _ _ w8 (D7.out.tchNil t8) h8.out.1.rd).mono ?_; rintro e w9 ⟨rfl, rfl⟩; rw [HEQ.out]
          dsimp only
          refine hK.out _ _ ?_ (fun hHeld => ?_)
          focus (refine KA.out _ ?_; (repeat (first | exact t8 | exact Tch.refl _ _ | exact Tch.drewN W7 1 | refine Tch.trans ?_ (Tch.alloc _ _) | refine Tch.trans ?_ (HU.out _).out.1 | refine Tch.trans ?_ (Tch.drewN _ 1))))
          clear hK K
          try simp only [Act.put, List.getElem_toArray, List.getElem_cons_succ, List.getElem_cons_zero, List.setIfInBounds_toArray, List.set_cons_zero, List.set_cons_succ]
          refine wpAnyH_take (i := 17) (v := ?v30) rfl (by kernel_rfl) (by kernel_rfl) (by kernel_rfl) (fun _ _ _ h => h) (Or.inl ⟨by kernel_rfl, ?hy30⟩) (by assumption) ?rest30
          case hy30 => (intro w hSw; (try dsimp only at hSw); go_simp; all_goals with_reducible rfl)
          try simp only [Act.put, List.getElem_toArray, List.getElem_cons_succ, List.getElem_cons_zero, List.setIfInBounds_toArray, List.set_cons_zero, List.set_cons_succ]
          refine wpAnyH_done (by kernel_rfl) ?_ _
          go_wp2
          refine J9.out _ _ ?_
          go_wp2
          go_ret
          exact ⟨rfl, T7.out.trans t8⟩
      · obtain ⟨J', hJ'⟩ : ∃ J', J' + 1 = J := ⟨J - 1, by omega⟩
        have i1 : (1 : Int) < (I : Int) := by have := HJ.out; omega
        obtain ⟨C, hC⟩ : ∃ C, C = J' * Z := ⟨_, rfl⟩
        have eJ2 : (I : Int) - 2 = (J' : Int) := by have := HJ.out; omega
        have eC : (J' : Int) * (Z : Int) = (C : Int) := by rw [hC]; push_cast; rfl
        have hCB : C ≤ B := by rw [hC, HB.out]; exact Nat.mul_le_mul_right Z (by omega)
        have bC : (C : Int) ≤ 8160 := by omega
        have S7' : Rd W7 (mid (.slice p6 A n6) C B) (expT (kindOf kt k s bl) prk info.data.toList J) := by rw [hC]; exact (M6.out J' hJ').tchNil U7.out
        have hs2 : ∀ w, (Instr.slice 24 (.slice p6 A n6) (some (.int .i64 (C : Int))) (some (.int .i64 (B : Int))) none).run Try.prog w = .ok (mid (.slice p6 A n6) C B) w := by intro w; rw [hC]; exact HR2.out J' w hJ'
        obtain ⟨qm, nm, cm, hqm⟩ : ∃ q n c, mid (.slice p6 A n6) C B = .slice q n c := by cases p6 <;> exact ⟨_, _, _, rfl⟩
        rw [hqm] at hs2 S7'
        have S7 := Lib.hid S7'
        clear h1 hC hCB S7' hqm hJ'
        go_wp2
        clear hs2 eC eJ2
        have hcv := HCV.out
        have v0 := HV0.out
        refine J8.out _ _ (wp_seq_k (fun K9 k9 => ?_))
        have J9 := Lib.hid k9
        clear k9
        refine wp_region_held_drew (S := (fun w' => w'.cell? ⟨c, 0, none⟩ = some (.int .i64 k) ∧ w'.cell? ⟨c, 1, none⟩ = some (.int .i64 s) ∧ w'.cell? ⟨c, 2, none⟩ = some (.int .i64 bl))) (by kernel_rfl) ?_ (fun hHeld => ?_)
        focus (refine KA.out _ ?_; (repeat (first | exact t8 | exact Tch.refl _ _ | exact Tch.drewN W7 1 | refine Tch.trans ?_ (Tch.alloc _ _) | refine Tch.trans ?_ (HU.out _).out.1 | refine Tch.trans ?_ (Tch.drewN _ 1))))
        refine wpAnyH_take (i := 0) (v := ?v31) rfl (by kernel_rfl) (by kernel_rfl) (by kernel_rfl) (fun _ _ _ h => h) (Or.inl ⟨by kernel_rfl, ?hy31⟩) (by assumption) ?rest31
        case hy31 => (intro w hSw; (try dsimp only at hSw); go_simp; all_goals with_reducible rfl)
        try simp only [Act.put, List.getElem_toArray, List.getElem_cons_succ, List.getElem_cons_zero, List.setIfInBounds_toArray, List.set_cons_zero, List.set_cons_succ]
        refine wpAnyH_take (i := 1) (v := ?v32) rfl (by kernel_rfl) (by kernel_rfl) (by kernel_rfl) (fun _ _ _ h => h) (Or.inl ⟨by kernel_rfl, ?hy32⟩) (by assumption) ?rest32
        case hy32 => (intro w hSw; (try dsimp only at hSw); go_simp; all_goals with_reducible rfl)
        try simp only [Act.put, List.getElem_toArray, List.getElem_cons_succ, List.getElem_cons_zero, List.setIfInBounds_toArray, List.set_cons_zero, List.set_cons_succ]
        refine wpAnyH_take (i := 2) (v := ?v33) rfl (by kernel_rfl) (by kernel_rfl) (by kernel_rfl) (fun _ _ _ h => h) (Or.inl ⟨by kernel_rfl, ?hy33⟩) (by assumption) ?rest33
        case hy33 => (intro w hSw; (try dsimp only at hSw); go_simp; all_goals with_reducible rfl)
        try simp only [Act.put, List.getElem_toArray, List.getElem_cons_succ, List.getElem_cons_zero, List.setIfInBounds_toArray, List.set_cons_zero, List.set_cons_succ]
        refine wpAnyH_take (i := 3) (v := ?v34) rfl (by kernel_rfl) (by kernel_rfl) (by kernel_rfl) (fun _ _ _ h => h) (Or.inl ⟨by kernel_rfl, ?hy34⟩) (by assumption) ?rest34
        case hy34 => (intro w hSw; (try dsimp only at hSw); go_simp; all_goals with_reducible rfl)
        try simp only [Act.put, List.getElem_toArray, List.getElem_cons_succ, List.getElem_cons_zero, List.setIfInBounds_toArray, List.set_cons_zero, List.set_cons_succ]
        refine wpAnyH_take (i := 4) (v := ?v35) rfl (by kernel_rfl) (by kernel_rfl) (by kernel_rfl) (fun _ _ _ h => h) (Or.inl ⟨by kernel_rfl, ?hy35⟩) (by assumption) ?rest35
        case hy35 => (intro w hSw; (try dsimp only at hSw); go_simp; all_goals with_reducible rfl)
        try simp only [Act.put, List.getElem_toArray, List.getElem_cons_succ, List.getElem_cons_zero, List.setIfInBounds_toArray, List.set_cons_zero, List.set_cons_succ]
        refine wpAnyH_take (i := 5) (v := ?v36) rfl (by kernel_rfl) (by kernel_rfl) (by kernel_rfl) (fun _ _ _ h => h) (Or.inl ⟨by kernel_rfl, ?hy36⟩) (by assumption) ?rest36
        case hy36 => (intro w hSw; (try dsimp only at hSw); go_simp; all_goals with_reducible rfl)
        try simp only [Act.put, List.getElem_toArray, List.getElem_cons_succ, List.getElem_cons_zero, List.setIfInBounds_toArray, List.set_cons_zero, List.set_cons_succ]
        refine wpAnyH_take (i := 6) (v := ?v37) rfl (by kernel_rfl) (by kernel_rfl) (by kernel_rfl) (fun _ _ _ h => h) (Or.inl ⟨by kernel_rfl, ?hy37⟩) (by assumption) ?rest37
        case hy37 => (intro w hSw; (try dsimp only at hSw); go_simp; all_goals with_reducible rfl)
        try simp only [Act.put, List.getElem_toArray, List.getElem_cons_succ, List.getElem_cons_zero, List.setIfInBounds_toArray, List.set_cons_zero, List.set_cons_succ]
        refine wpAnyH_take (i := 7) (v := ?v38) rfl (by kernel_rfl) (by kernel_rfl) (by kernel_rfl) (fun _ _ _ h => h) (Or.inl ⟨by kernel_rfl, ?hy38⟩) (by assumption) ?rest38
        case hy38 => (intro w hSw; (try dsimp only at hSw); go_simp; all_goals with_reducible rfl)
        try simp only [Act.put, List.getElem_toArray, List.getElem_cons_succ, List.getElem_cons_zero, List.setIfInBounds_toArray, List.set_cons_zero, List.set_cons_succ]
        refine wpAnyH_take (i := 8) (v := ?v39) rfl (by kernel_rfl) (by kernel_rfl) (by kernel_rfl) (fun _ _ _ h => h) (Or.inl ⟨by kernel_rfl, ?hy39⟩) (by assumption) ?rest39
        case hy39 => (intro w hSw; (try dsimp only at hSw); go_simp; all_goals with_reducible rfl)
        try simp only [Act.put, List.getElem_toArray, List.getElem_cons_succ, List.getElem_cons_zero, List.setIfInBounds_toArray, List.set_cons_zero, List.set_cons_succ]
        refine wpAnyH_take (i := 9) (v := ?v40) rfl (by kernel_rfl) (by kernel_rfl) (by kernel_rfl) (fun _ _ _ h => h) (Or.inl ⟨by kernel_rfl, ?hy40⟩) (by assumption) ?rest40
        case hy40 => (intro w hSw; (try dsimp only at hSw); go_simp; all_goals with_reducible rfl)
        try simp only [Act.put, List.getElem_toArray, List.getElem_cons_succ, List.getElem_cons_zero, List.setIfInBounds_toArray, List.set_cons_zero, List.set_cons_succ]
        refine wpAnyH_take (i := 11) (v := ?v41) rfl (by kernel_rfl) (by kernel_rfl) (by kernel_rfl) (fun _ _ _ h => h) (Or.inl ⟨by kernel_rfl, ?hy41⟩) (by assumption) ?rest41
        case hy41 => (intro w hSw; (try dsimp only at hSw); go_simp; all_goals with_reducible rfl)
        try simp only [Act.put, List.getElem_toArray, List.getElem_cons_succ, List.getElem_cons_zero, List.setIfInBounds_toArray, List.set_cons_zero, List.set_cons_succ]
        refine wpAnyH_take (i := 12) (v := ?v42) rfl (by kernel_rfl) (by kernel_rfl) (by kernel_rfl) (fun _ _ _ h => h) (Or.inl ⟨by kernel_rfl, ?hy42⟩) (by assumption) ?rest42
        case hy42 => (intro w hSw; (try dsimp only at hSw); go_simp; all_goals with_reducible rfl)
        try simp only [Act.put, List.getElem_toArray, List.getElem_cons_succ, List.getElem_cons_zero, List.setIfInBounds_toArray, List.set_cons_zero, List.set_cons_succ]
        refine wpAnyH_ready (rs := [10, 13]) (by kernel_rfl) (by simp) ?_
        refine AllReadyH.cons rfl (fun K hK => ?_) (AllReadyH.cons rfl (fun K hK => ?_) AllReadyH.nil)
        · go_simp
          refine hK.out _ _ ?_ (fun hHeld => ?_)
          focus (refine KA.out _ ?_; (repeat (first | exact t8 | exact Tch.refl _ _ | exact Tch.drewN W7 1 | refine Tch.trans ?_ (Tch.alloc _ _) | refine Tch.trans ?_ (HU.out _).out.1 | refine Tch.trans ?_ (Tch.drewN _ 1))))
          clear hK K
          try simp only [Act.put, List.getElem_toArray, List.getElem_cons_succ, List.getElem_cons_zero, List.setIfInBounds_toArray, List.set_cons_zero, List.set_cons_succ]
          refine wpAnyH_ready (rs := [13]) (by kernel_rfl) (by simp) ?_
          refine AllReadyH.cons rfl (fun K hK => ?_) AllReadyH.nil
          go_simp
          refine hK.out _ _ ?_ (fun hHeld => ?_)
          focus (refine KA.out _ ?_; (repeat (first | exact t8 | exact Tch.refl _ _ | exact Tch.drewN W7 1 | refine Tch.trans ?_ (Tch.alloc _ _) | refine Tch.trans ?_ (HU.out _).out.1 | refine Tch.trans ?_ (Tch.drewN _ 1))))
          clear hK K
          try simp only [Act.put, List.getElem_toArray, List.getElem_cons_succ, List.getElem_cons_zero, List.setIfInBounds_toArray, List.set_cons_zero, List.set_cons_succ]
          refine wpAnyH_ready (rs := [14]) (by kernel_rfl) (by simp) ?_
          refine AllReadyH.cons rfl (fun K hK => ?_) AllReadyH.nil
          go_simp
          refine hK.out _ _ ?_ (fun hHeld => ?_)
          focus (refine KA.out _ ?_; (repeat (first | exact t8 | exact Tch.refl _ _ | exact Tch.drewN W7 1 | refine Tch.trans ?_ (Tch.alloc _ _) | refine Tch.trans ?_ (HU.out _).out.1 | refine Tch.trans ?_ (Tch.drewN _ 1))))
          clear hK K
          try simp only [Act.put, List.getElem_toArray, List.getElem_cons_succ, List.getElem_cons_zero, List.setIfInBounds_toArray, List.set_cons_zero, List.set_cons_succ]
          refine wpAnyH_ready (rs := [15]) (by kernel_rfl) (by simp) ?_
          refine AllReadyH.cons rfl (fun K hK => ?_) AllReadyH.nil
          go_simp
          refine (iMac kt k s bl prk [expT (kindOf kt k s bl) prk info.data.toList J, info.data.toList, [b3]] _ _ _ (HK.out.tch (T7.out.trans ?_) (by simp)) (Rprk.out.tchNil (T7.out.trans ?_)) (by have := HLEN.out; omega) (prd_at3 ?_ (S7.out.tchNil ?_) (rd_blk (((HU.out _).out.2.tchNil (Tch.alloc _ _)).tchNil (Tch.alloc _ _)) (by first | rfl | (simp; done))) (rd_blk ((rd_cells _ [b3] _ 1 (by simp) (by simp) (by simp [vb])).tchNil (Tch.alloc _ _)) (by first | rfl | (simp; done)))) (by have := HLEN.out; have := ZLinfo.out; have := HL4.out; simp; omega)).mono ?_; (focus ((repeat (first | exact t8 | exact Tch.refl _ _ | exact Tch.drewN W7 1 | refine Tch.trans ?_ (Tch.alloc _ _) | refine Tch.trans ?_ (HU.out _).out.1 | refine Tch.trans ?_ (Tch.drewN _ 1))))); (focus ((repeat (first | exact t8 | exact Tch.refl _ _ | exact Tch.drewN W7 1 | refine Tch.trans ?_ (Tch.alloc _ _) | refine Tch.trans ?_ (HU.out _).out.1 | refine Tch.trans ?_ (Tch.drewN _ 1))))); (focus (first | rfl | simp)); (focus ((repeat (first | exact t8 | exact Tch.refl _ _ | exact Tch.drewN W7 1 | refine Tch.trans ?_ (Tch.alloc _ _) | refine Tch.trans ?_ (HU.out _).out.1 | refine Tch.trans ?_ (Tch.drewN _ 1))))); rintro e w8 ⟨v8, rfl, h8⟩; have t8 : Tch [] W7 w8 := by { refine Tch.trans ?_ h8.out.tchNil; (repeat (first | exact t8 | exact Tch.refl _ _ | exact Tch.drewN W7 1 | refine Tch.trans ?_ (Tch.alloc _ _) | refine Tch.trans ?_ (HU.out _).out.1 | refine Tch.trans ?_ (Tch.drewN _ 1))) }
          dsimp only
          refine hK.out _ _ ?_ (fun hHeld => ?_)
          focus (refine KA.out _ ?_; (repeat (first | exact t8 | exact Tch.refl _ _ | exact Tch.drewN W7 1 | refine Tch.trans ?_ (Tch.alloc _ _) | refine Tch.trans ?_ (HU.out _).out.1 | refine Tch.trans ?_ (Tch.drewN _ 1))))
          clear hK K
          try simp only [Act.put, List.getElem_toArray, List.getElem_cons_succ, List.getElem_cons_zero, List.setIfInBounds_toArray, List.set_cons_zero, List.set_cons_succ]
          refine wpAnyH_ready (rs := [16]) (by kernel_rfl) (by simp) ?_
          refine AllReadyH.cons rfl (fun K hK => ?_) AllReadyH.nil
          go_simp
          refine (lSame _ _ _ _ w8 (D7.out.tchNil t8) h8.out.1.rd).mono ?_; rintro e w9 ⟨rfl, rfl⟩; rw [HEQ.out]
          dsimp only
          refine hK.out _ _ ?_ (fun hHeld => ?_)
          focus (refine KA.out _ ?_; (repeat (first | exact t8 | exact Tch.refl _ _ | exact Tch.drewN W7 1 | refine Tch.trans ?_ (Tch.alloc _ _) | refine Tch.trans ?_ (HU.out _).out.1 | refine Tch.trans ?_ (Tch.drewN _ 1))))
          clear hK K
          try simp only [Act.put, List.getElem_toArray, List.getElem_cons_succ, List.getElem_cons_zero, List.setIfInBounds_toArray, List.set_cons_zero, List.set_cons_succ]
          refine wpAnyH_take (i := 17) (v := ?v43) rfl (by kernel_rfl) (by kernel_rfl) (by kernel_rfl) (fun _ _ _ h => h) (Or.inl ⟨by kernel_rfl, ?hy43⟩) (by assumption) ?rest43
          case hy43 => (intro w hSw; (try dsimp only at hSw); go_simp; all_goals with_reducible rfl)
          try simp only [Act.put, List.getElem_toArray, List.getElem_cons_succ, List.getElem_cons_zero, List.setIfInBounds_toArray, List.set_cons_zero, List.set_cons_succ]
          refine wpAnyH_done (by kernel_rfl) ?_ _
          go_wp2
          refine J9.out _ _ ?_
          go_wp2
          go_ret
          exact ⟨rfl, T7.out.trans t8⟩
        · go_simp
          refine hK.out _ _ ?_ (fun hHeld => ?_)
          focus (refine KA.out _ ?_; (repeat (first | exact t8 | exact Tch.refl _ _ | exact Tch.drewN W7 1 | refine Tch.trans ?_ (Tch.alloc _ _) | refine Tch.trans ?_ (HU.out _).out.1 | refine Tch.trans ?_ (Tch.drewN _ 1))))
          clear hK K
          try simp only [Act.put, List.getElem_toArray, List.getElem_cons_succ, List.getElem_cons_zero, List.setIfInBounds_toArray, List.set_cons_zero, List.set_cons_succ]
          refine wpAnyH_ready (rs := [10]) (by kernel_rfl) (by simp) ?_
          refine AllReadyH.cons rfl (fun K hK => ?_) AllReadyH.nil
          go_simp
          refine hK.out _ _ ?_ (fun hHeld => ?_)
          focus (refine KA.out _ ?_; (repeat (first | exact t8 | exact Tch.refl _ _ | exact Tch.drewN W7 1 | refine Tch.trans ?_ (Tch.alloc _ _) | refine Tch.trans ?_ (HU.out _).out.1 | refine Tch.trans ?_ (Tch.drewN _ 1))))
          clear hK K
          try simp only [Act.put, List.getElem_toArray, List.getElem_cons_succ, List.getElem_cons_zero, List.setIfInBounds_toArray, List.set_cons_zero, List.set_cons_succ]
          refine wpAnyH_ready (rs := [14]) (by kernel_rfl) (by simp) ?_
          refine AllReadyH.cons rfl (fun K hK => ?_) AllReadyH.nil
          go_simp
          refine hK.out _ _ ?_ (fun hHeld => ?_)
          focus (refine KA.out _ ?_; (repeat (first | exact t8 | exact Tch.refl _ _ | exact Tch.drewN W7 1 | refine Tch.trans ?_ (Tch.alloc _ _) | refine Tch.trans ?_ (HU.out _).out.1 | refine Tch.trans ?_ (Tch.drewN _ 1))))
          clear hK K
          try simp only [Act.put, List.getElem_toArray, List.getElem_cons_succ, List.getElem_cons_zero, List.setIfInBounds_toArray, List.set_cons_zero, List.set_cons_succ]
          refine wpAnyH_ready (rs := [15]) (by kernel_rfl) (by simp) ?_
          refine AllReadyH.cons rfl (fun K hK => ?_) AllReadyH.nil
          go_simp
          refine (iMac kt k s bl prk [expT (kindOf kt k s bl) prk info.data.toList J, info.data.toList, [b3]] _ _ _ (HK.out.tch (T7.out.trans ?_) (by simp)) (Rprk.out.tchNil (T7.out.trans ?_)) (by have := HLEN.out; omega) (prd_at3 ?_ (S7.out.tchNil ?_) (rd_blk ((HU.out _).out.2.tchNil (Tch.alloc _ _)) (by first | rfl | (simp; done))) (rd_blk ((((rd_cells _ [b3] _ 1 (by simp) (by simp) (by simp [vb])).tchNil (Tch.drewN _ 1)).tchNil (HU.out _).out.1).tchNil (Tch.alloc _ _)) (by first | rfl | (simp; done)))) (by have := HLEN.out; have := ZLinfo.out; have := HL4.out; simp; omega)).mono ?_; (focus ((repeat (first | exact t8 | exact Tch.refl _ _ | exact Tch.drewN W7 1 | refine Tch.trans ?_ (Tch.alloc _ _) | refine Tch.trans ?_ (HU.out _).out.1 | refine Tch.trans ?_ (Tch.drewN _ 1))))); (focus ((repeat (first | exact t8 | exact Tch.refl _ _ | exact Tch.drewN W7 1 | refine Tch.trans ?_ (Tch.alloc _ _) | refine Tch.trans ?_ (HU.out _).out.1 | refine Tch.trans ?_ (Tch.drewN _ 1))))); (focus (first | rfl | simp)); (focus ((repeat (first | exact t8 | exact Tch.refl _ _ | exact Tch.drewN W7 1 | refine Tch.trans ?_ (Tch.alloc _ _) | refine Tch.trans ?_ (HU.out _).out.1 | refine Tch.trans ?_ (Tch.drewN _ 1))))); rintro e w8 ⟨v8, rfl, h8⟩; have t8 : Tch [] W7 w8 := by { refine Tch.trans ?_ h8.out.tchNil; (repeat (first | exact t8 | exact Tch.refl _ _ | exact Tch.drewN W7 1 | refine Tch.trans ?_ (Tch.alloc _ _) | refine Tch.trans ?_ (HU.out _).out.1 | refine Tch.trans ?_ (Tch.drewN _ 1))) }
          dsimp only
          refine hK.out _ _ ?_ (fun hHeld => ?_)
          focus (refine KA.out _ ?_; (repeat (first | exact t8 | exact Tch.refl _ _ | exact Tch.drewN W7 1 | refine Tch.trans ?_ (Tch.alloc _ _) | refine Tch.trans ?_ (HU.out _).out.1 | refine Tch.trans ?_ (Tch.drewN _ 1))))
          clear hK K
          try simp only [Act.put, List.getElem_toArray, List.getElem_cons_succ, List.getElem_cons_zero, List.setIfInBounds_toArray, List.set_cons_zero, List.set_cons_succ]
          refine wpAnyH_ready (rs := [16]) (by kernel_rfl) (by simp) ?_
          refine AllReadyH.cons rfl (fun K hK => ?_) AllReadyH.nil
          go_simp
          refine (lSame _ _ _ _ w8 (D7.out.tchNil t8) h8.out.1.rd).mono ?_; rintro e w9 ⟨rfl, rfl⟩; rw [HEQ.out]
          dsimp only
          refine hK.out _ _ ?_ (fun hHeld => ?_)
          focus (refine KA.out _ ?_; (repeat (first | exact t8 | exact Tch.refl _ _ | exact Tch.drewN W7 1 | refine Tch.trans ?_ (Tch.alloc _ _) | refine Tch.trans ?_ (HU.out _).out.1 | refine Tch.trans ?_ (Tch.drewN _ 1))))
          clear hK K
          try simp only [Act.put, List.getElem_toArray, List.getElem_cons_succ, List.getElem_cons_zero, List.setIfInBounds_toArray, List.set_cons_zero, List.set_cons_succ]
          refine wpAnyH_take (i := 17) (v := ?v44) rfl (by kernel_rfl) (by kernel_rfl) (by kernel_rfl) (fun _ _ _ h => h) (Or.inl ⟨by kernel_rfl, ?hy44⟩) (by assumption) ?rest44
          case hy44 => (intro w hSw; (try dsimp only at hSw); go_simp; all_goals with_reducible rfl)
          try simp only [Act.put, List.getElem_toArray, List.getElem_cons_succ, List.getElem_cons_zero, List.setIfInBounds_toArray, List.set_cons_zero, List.set_cons_succ]
          refine wpAnyH_done (by kernel_rfl) ?_ _
          go_wp2
          refine J9.out _ _ ?_
          go_wp2
          go_ret
          exact ⟨rfl, T7.out.trans t8⟩
end Go.Proofs.Ytgomodhhomekpaa
