/-
  FnPrefix: its walk.
-/
import Derived.Test.YtgomodhhomekpaaM6
import Derived.Test.YtgomodhhomekpaaXr
import Derived.Test.YtgomodhhomekpaaHv
namespace Go.Proofs.Ytgomodhhomekpaa
open Go.RowKit Pu Ar
set_option linter.unusedSimpArgs false in
set_option maxHeartbeats 2000000 in
set_option maxRecDepth 100000 in
theorem fnPrefix (kt : List UInt32) (k s bl : Int) (prk : By) (info : ByteArray) (n : Nat) (m : Nat) (prkV : Value) (w : World) (hK : KIs w kt) (hprk : Rd w prkV prk ∧ Nm prkV) (hinfo : info.size ≤ maxLen) (hn : n < 65536) (hm : m < 65536) :
    Calls Try.prog 15 #[.agg #[.int .i64 k, .int .i64 s, .int .i64 bl], prkV, .string info, .int .u16 n, .int .u16 m] w fun e w' => e = .returned (.bool true) ∧ Hid (Tch [] w w') := by
  obtain ⟨hprk, hprkN⟩ := hprk
  obtain ⟨prkp, prkc, rfl⟩ := rd_ex hprk
  have Rprk := Lib.hid hprk
  have Nprk := Lib.hid hprkN
  clear hprk hprkN
  have hminfo := hinfo
  unfold maxLen at hminfo
  clear hinfo
  have ZLinfo : Hid (info.data.toList.length = info.size) := by show info.data.toList.length = info.data.size; exact Array.length_toList
  have hbn : (n : Int) < 65536 := by omega
  clear hn
  have hbm : (m : Int) < 65536 := by omega
  clear hm
  have HK := Lib.hid hK
  clear hK
  go_enter Try.func15, Try.ntmps15
  refine wp_seq_k (fun K0 k0 => ?_)
  have J0 := Lib.hid k0
  clear k0
  go_wp2
  generalize hW1 : World.alloc _ _ = W1
  have R1 : Row W1 w.heap.size 23 [.int .i64 k, .int .i64 s, .int .i64 bl] := by rw [← hW1]; exact Row.new w 23 _
  have T1 : Hid (Tch [] w W1) := by rw [← hW1]; exact Tch.alloc _ _
  have c0 : W1.cell? ⟨w.heap.size, 0, none⟩ = some (.int .i64 k) := by rw [R1.cell]; rfl
  have c1 : W1.cell? ⟨w.heap.size, 1, none⟩ = some (.int .i64 s) := by rw [R1.cell]; rfl
  have c2 : W1.cell? ⟨w.heap.size, 2, none⟩ = some (.int .i64 bl) := by rw [R1.cell]; rfl
  clear hW1 R1
  obtain ⟨c, hc⟩ : ∃ c, c = w.heap.size := ⟨_, rfl⟩
  rw [← hc] at c0 c1 c2 ⊢
  clear hc
  obtain ⟨Z, hZ⟩ : ∃ Z, Z = szK k s bl := ⟨_, rfl⟩
  have HZ := Lib.hid hZ
  have zz := szK_bd k s bl
  rw [← hZ] at zz
  clear hZ
  have z1 : (1 : Int) ≤ Z := by omega
  have z2 : (Z : Int) ≤ 32 := by omega
  clear zz
  refine J0.out _ _ (wp_seq_k (fun K1 k1 => ?_))
  have J1 := Lib.hid k1
  clear k1
  by_cases zprk : 2147483647 < (prk.length : Int)
  · go_wp2
    go_ret
    exact ⟨rfl, T1.out⟩
  by_cases zinfo : 2147483647 < (info.size : Int)
  · go_wp2
    go_ret
    exact ⟨rfl, T1.out⟩
  have KA : Hid (∀ w', Tch [] W1 w' → (w'.cell? ⟨c, 0, none⟩ = some (.int .i64 k) ∧ w'.cell? ⟨c, 1, none⟩ = some (.int .i64 s) ∧ w'.cell? ⟨c, 2, none⟩ = some (.int .i64 bl))) := fun w' h => ⟨h.cell c0 (by simp), h.cell c1 (by simp), h.cell c2 (by simp)⟩
  go_wp2
  refine J1.out _ _ (wp_seq_k (fun K2 k2 => ?_))
  have J2 := Lib.hid k2
  clear k2
  obtain ⟨Uinfo, xinfo, hcv, hUinfo⟩ : ∃ U : World → World, ∃ x : World → Nat, (∀ w : World, (convert 9 24 (.string info)).run Try.prog w = .ok (.slice (some ⟨w.heap.size, 0, none⟩) info.size (x w)) (U w)) ∧ ∀ w, Hid (Tch [] w (U w) ∧ Rd (U w) (.slice (some ⟨w.heap.size, 0, none⟩) info.size (x w)) info.data.toList) :=
    ⟨fun w => (by_of_str w info (by omega)).choose, fun w => (by_of_str w info (by omega)).choose_spec.choose, fun w => (by_of_str w info (by omega)).choose_spec.choose_spec.1, fun w => (by_of_str w info (by omega)).choose_spec.choose_spec.2⟩
  have HU := Lib.hid hUinfo
  have HCV := Lib.hid hcv
  clear hUinfo
  have cT : ∀ w', Tch [] W1 w' → Tch [] w w' := fun w' h => T1.out.trans h
  have CT := Lib.hid cT
  clear cT
  have HP2 : Hid (PRd (World.alloc (Uinfo (W1.drewN 1)) (.cells #[.slice prkp prk.length prkc, .slice (some ⟨(W1.drewN 1).heap.size, 0, none⟩) info.size (xinfo (W1.drewN 1))] 24)) (.slice (some ⟨(Uinfo (W1.drewN 1)).heap.size, 0, none⟩) 2 2) [prk, info.data.toList]) := prd_two (Rprk.out.tchNil (T1.out.trans ((Tch.drewN W1 1).trans (HU.out (W1.drewN 1)).out.1))) (HU.out (W1.drewN 1)).out.2
  have TP2 : Hid (Tch [] W1 (World.alloc (Uinfo (W1.drewN 1)) (.cells #[.slice prkp prk.length prkc, .slice (some ⟨(W1.drewN 1).heap.size, 0, none⟩) info.size (xinfo (W1.drewN 1))] 24))) := ((Tch.drewN W1 1).trans (HU.out (W1.drewN 1)).out.1).trans (Tch.alloc _ _)
  have TU : Hid (Tch [] W1 (Uinfo (W1.drewN 1))) := (Tch.drewN W1 1).trans (HU.out (W1.drewN 1)).out.1
  have HLS : Hid (∀ p ∈ [prk, info.data.toList], p.length ≤ 2147483647) := by
    intro p hp
    simp only [List.mem_cons, List.not_mem_nil, or_false] at hp
    have := ZLinfo.out
    rcases hp with rfl | rfl <;> omega
  by_cases hlong : 1048576 < [prk, info.data.toList].flatten.length
  · have HLG : Hid (decide (1048576 < [prk, info.data.toList].flatten.length) = true) := decide_eq_true hlong
    clear hlong
    go_wp2
    refine wp_region_any (by kernel_rfl) ?_
    change wpAny _ _ _ _ _ _ _ (World.drew _)
    refine wpAny_take (i := 0) (v := ?v1) rfl (by kernel_rfl) (by kernel_rfl) (by kernel_rfl) (fun _ _ _ h => h) (Or.inl ⟨by kernel_rfl, ?hy1⟩) ?rest1
    case hy1 => (intro w; go_simp; all_goals with_reducible rfl)
    try simp only [Act.put, List.getElem_toArray, List.getElem_cons_succ, List.getElem_cons_zero, List.setIfInBounds_toArray, List.set_cons_zero, List.set_cons_succ]
    refine wpAny_take (i := 1) (v := ?v2) rfl (by kernel_rfl) (by kernel_rfl) (by kernel_rfl) (fun _ _ _ h => h) (Or.inl ⟨by kernel_rfl, ?hy2⟩) ?rest2
    case hy2 => (intro w; go_simp; all_goals with_reducible rfl)
    try simp only [Act.put, List.getElem_toArray, List.getElem_cons_succ, List.getElem_cons_zero, List.setIfInBounds_toArray, List.set_cons_zero, List.set_cons_succ]
    refine wpAny_ready (rs := [2]) (by kernel_rfl) (by simp) ?_
    refine AllReady.cons rfl (fun K hK => ?_) AllReady.nil
    go_simp
    refine hK _ _ ?_
    clear hK K
    try simp only [Act.put, List.getElem_toArray, List.getElem_cons_succ, List.getElem_cons_zero, List.setIfInBounds_toArray, List.set_cons_zero, List.set_cons_succ]
    refine wpAny_ready (rs := [3]) (by kernel_rfl) (by simp) ?_
    refine AllReady.cons rfl (fun K hK => ?_) AllReady.nil
    go_simp
    refine hK _ _ ?_
    clear hK K
    try simp only [Act.put, List.getElem_toArray, List.getElem_cons_succ, List.getElem_cons_zero, List.setIfInBounds_toArray, List.set_cons_zero, List.set_cons_succ]
    refine wpAny_ready (rs := [4]) (by kernel_rfl) (by simp) ?_
    refine AllReady.cons rfl (fun K hK => ?_) AllReady.nil
    go_simp
    refine (lLong [prk, info.data.toList] _ _ HP2.out HLS.out).mono ?_; rintro e w2 ⟨rfl, hw2⟩; have t2 : Tch [] W1 w2 := (by rw [← hw2]; exact TP2.out); rw [HLG.out]
    dsimp only
    refine hK _ _ ?_
    clear hK K
    try simp only [Act.put, List.getElem_toArray, List.getElem_cons_succ, List.getElem_cons_zero, List.setIfInBounds_toArray, List.set_cons_zero, List.set_cons_succ]
    refine wpAny_take (i := 5) (v := ?v3) rfl (by kernel_rfl) (by kernel_rfl) (by kernel_rfl) (fun _ _ _ h => h) (Or.inl ⟨by kernel_rfl, ?hy3⟩) ?rest3
    case hy3 => (intro w; go_simp; all_goals with_reducible rfl)
    try simp only [Act.put, List.getElem_toArray, List.getElem_cons_succ, List.getElem_cons_zero, List.setIfInBounds_toArray, List.set_cons_zero, List.set_cons_succ]
    refine wpAny_take (i := 6) (v := undef) rfl (by kernel_rfl) (by kernel_rfl) (by kernel_rfl) (fun _ _ _ h => h) (Or.inr ⟨by kernel_rfl, rfl⟩) ?_
    try simp only [Act.put, List.getElem_toArray, List.getElem_cons_succ, List.getElem_cons_zero, List.setIfInBounds_toArray, List.set_cons_zero, List.set_cons_succ]
    refine wpAny_take (i := 7) (v := undef) rfl (by kernel_rfl) (by kernel_rfl) (by kernel_rfl) (fun _ _ _ h => h) (Or.inr ⟨by kernel_rfl, rfl⟩) ?_
    try simp only [Act.put, List.getElem_toArray, List.getElem_cons_succ, List.getElem_cons_zero, List.setIfInBounds_toArray, List.set_cons_zero, List.set_cons_succ]
    refine wpAny_take (i := 8) (v := undef) rfl (by kernel_rfl) (by kernel_rfl) (by kernel_rfl) (fun _ _ _ h => h) (Or.inr ⟨by kernel_rfl, rfl⟩) ?_
    try simp only [Act.put, List.getElem_toArray, List.getElem_cons_succ, List.getElem_cons_zero, List.setIfInBounds_toArray, List.set_cons_zero, List.set_cons_succ]
    refine wpAny_take (i := 9) (v := undef) rfl (by kernel_rfl) (by kernel_rfl) (by kernel_rfl) (fun _ _ _ h => h) (Or.inr ⟨by kernel_rfl, rfl⟩) ?_
    try simp only [Act.put, List.getElem_toArray, List.getElem_cons_succ, List.getElem_cons_zero, List.setIfInBounds_toArray, List.set_cons_zero, List.set_cons_succ]
    refine wpAny_take (i := 10) (v := undef) rfl (by kernel_rfl) (by kernel_rfl) (by kernel_rfl) (fun _ _ _ h => h) (Or.inr ⟨by kernel_rfl, rfl⟩) ?_
    try simp only [Act.put, List.getElem_toArray, List.getElem_cons_succ, List.getElem_cons_zero, List.setIfInBounds_toArray, List.set_cons_zero, List.set_cons_succ]
    refine wpAny_take (i := 11) (v := undef) rfl (by kernel_rfl) (by kernel_rfl) (by kernel_rfl) (fun _ _ _ h => h) (Or.inr ⟨by kernel_rfl, rfl⟩) ?_
    try simp only [Act.put, List.getElem_toArray, List.getElem_cons_succ, List.getElem_cons_zero, List.setIfInBounds_toArray, List.set_cons_zero, List.set_cons_succ]
    refine wpAny_take (i := 12) (v := undef) rfl (by kernel_rfl) (by kernel_rfl) (by kernel_rfl) (fun _ _ _ h => h) (Or.inr ⟨by kernel_rfl, rfl⟩) ?_
    try simp only [Act.put, List.getElem_toArray, List.getElem_cons_succ, List.getElem_cons_zero, List.setIfInBounds_toArray, List.set_cons_zero, List.set_cons_succ]
    refine wpAny_take (i := 13) (v := undef) rfl (by kernel_rfl) (by kernel_rfl) (by kernel_rfl) (fun _ _ _ h => h) (Or.inr ⟨by kernel_rfl, rfl⟩) ?_
    try simp only [Act.put, List.getElem_toArray, List.getElem_cons_succ, List.getElem_cons_zero, List.setIfInBounds_toArray, List.set_cons_zero, List.set_cons_succ]
    refine wpAny_take (i := 14) (v := undef) rfl (by kernel_rfl) (by kernel_rfl) (by kernel_rfl) (fun _ _ _ h => h) (Or.inr ⟨by kernel_rfl, rfl⟩) ?_
    try simp only [Act.put, List.getElem_toArray, List.getElem_cons_succ, List.getElem_cons_zero, List.setIfInBounds_toArray, List.set_cons_zero, List.set_cons_succ]
    refine wpAny_take (i := 15) (v := undef) rfl (by kernel_rfl) (by kernel_rfl) (by kernel_rfl) (fun _ _ _ h => h) (Or.inr ⟨by kernel_rfl, rfl⟩) ?_
    try simp only [Act.put, List.getElem_toArray, List.getElem_cons_succ, List.getElem_cons_zero, List.setIfInBounds_toArray, List.set_cons_zero, List.set_cons_succ]
    refine wpAny_take (i := 16) (v := ?v4) rfl (by kernel_rfl) (by kernel_rfl) (by kernel_rfl) (fun _ _ _ h => h) (Or.inl ⟨by kernel_rfl, ?hy4⟩) ?rest4
    case hy4 => (intro w; go_simp; all_goals with_reducible rfl)
    try simp only [Act.put, List.getElem_toArray, List.getElem_cons_succ, List.getElem_cons_zero, List.setIfInBounds_toArray, List.set_cons_zero, List.set_cons_succ]
    refine wpAny_done (by kernel_rfl) ?_ _
    go_wp2
    go_ret
    exact ⟨rfl, CT.out _ t2⟩
  · have HLG : Hid (decide (1048576 < [prk, info.data.toList].flatten.length) = false) := decide_eq_false hlong
    have HLEN : Hid (prk.length + info.size ≤ 1048576) := by
      simp only [List.flatten_cons, List.flatten_nil, List.append_nil, List.length_append] at hlong
      have := ZLinfo.out
      show _ ≤ _
      omega
    clear hlong
    go_wp2
    refine wp_region_held_drew (S := (fun w' => w'.cell? ⟨c, 0, none⟩ = some (.int .i64 k) ∧ w'.cell? ⟨c, 1, none⟩ = some (.int .i64 s) ∧ w'.cell? ⟨c, 2, none⟩ = some (.int .i64 bl))) (by kernel_rfl) ?_ (fun hHeld => ?_)
    focus (refine KA.out _ ?_; first | exact t4 | exact t3 | exact t2 | exact TU.out | exact TP2.out | exact Tch.drewN W1 1)
    refine wpAnyH_take (i := 0) (v := ?v5) rfl (by kernel_rfl) (by kernel_rfl) (by kernel_rfl) (fun _ _ _ h => h) (Or.inl ⟨by kernel_rfl, ?hy5⟩) (by assumption) ?rest5
    case hy5 => (intro w hSw; (try dsimp only at hSw); go_simp; all_goals with_reducible rfl)
    try simp only [Act.put, List.getElem_toArray, List.getElem_cons_succ, List.getElem_cons_zero, List.setIfInBounds_toArray, List.set_cons_zero, List.set_cons_succ]
    refine wpAnyH_take (i := 1) (v := ?v6) rfl (by kernel_rfl) (by kernel_rfl) (by kernel_rfl) (fun _ _ _ h => h) (Or.inl ⟨by kernel_rfl, ?hy6⟩) (by assumption) ?rest6
    case hy6 => (intro w hSw; (try dsimp only at hSw); go_simp; all_goals with_reducible rfl)
    try simp only [Act.put, List.getElem_toArray, List.getElem_cons_succ, List.getElem_cons_zero, List.setIfInBounds_toArray, List.set_cons_zero, List.set_cons_succ]
    refine wpAnyH_ready (rs := [2]) (by kernel_rfl) (by simp) ?_
    refine AllReadyH.cons rfl (fun K hK => ?_) AllReadyH.nil
    go_simp
    refine hK.out _ _ ?_ (fun hHeld => ?_)
    focus (refine KA.out _ ?_; first | exact t4 | exact t3 | exact t2 | exact TU.out | exact TP2.out | exact Tch.drewN W1 1)
    clear hK K
    try simp only [Act.put, List.getElem_toArray, List.getElem_cons_succ, List.getElem_cons_zero, List.setIfInBounds_toArray, List.set_cons_zero, List.set_cons_succ]
    refine wpAnyH_ready (rs := [3]) (by kernel_rfl) (by simp) ?_
    refine AllReadyH.cons rfl (fun K hK => ?_) AllReadyH.nil
    go_simp
    refine hK.out _ _ ?_ (fun hHeld => ?_)
    focus (refine KA.out _ ?_; first | exact t4 | exact t3 | exact t2 | exact TU.out | exact TP2.out | exact Tch.drewN W1 1)
    clear hK K
    try simp only [Act.put, List.getElem_toArray, List.getElem_cons_succ, List.getElem_cons_zero, List.setIfInBounds_toArray, List.set_cons_zero, List.set_cons_succ]
    refine wpAnyH_ready (rs := [4]) (by kernel_rfl) (by simp) ?_
    refine AllReadyH.cons rfl (fun K hK => ?_) AllReadyH.nil
    go_simp
    refine (lLong [prk, info.data.toList] _ _ HP2.out HLS.out).mono ?_; rintro e w2 ⟨rfl, hw2⟩; have t2 : Tch [] W1 w2 := (by rw [← hw2]; exact TP2.out); rw [HLG.out]
    dsimp only
    refine hK.out _ _ ?_ (fun hHeld => ?_)
    focus (refine KA.out _ ?_; first | exact t4 | exact t3 | exact t2 | exact TU.out | exact TP2.out | exact Tch.drewN W1 1)
    clear hK K
    try simp only [Act.put, List.getElem_toArray, List.getElem_cons_succ, List.getElem_cons_zero, List.setIfInBounds_toArray, List.set_cons_zero, List.set_cons_succ]
    refine wpAnyH_take (i := 5) (v := ?v7) rfl (by kernel_rfl) (by kernel_rfl) (by kernel_rfl) (fun _ _ _ h => h) (Or.inl ⟨by kernel_rfl, ?hy7⟩) (by assumption) ?rest7
    case hy7 => (intro w hSw; (try dsimp only at hSw); go_simp; all_goals with_reducible rfl)
    try simp only [Act.put, List.getElem_toArray, List.getElem_cons_succ, List.getElem_cons_zero, List.setIfInBounds_toArray, List.set_cons_zero, List.set_cons_succ]
    refine wpAnyH_take (i := 6) (v := ?v8) rfl (by kernel_rfl) (by kernel_rfl) (by kernel_rfl) (fun _ _ _ h => h) (Or.inl ⟨by kernel_rfl, ?hy8⟩) (by assumption) ?rest8
    case hy8 => (intro w hSw; (try dsimp only at hSw); go_simp; all_goals with_reducible rfl)
    try simp only [Act.put, List.getElem_toArray, List.getElem_cons_succ, List.getElem_cons_zero, List.setIfInBounds_toArray, List.set_cons_zero, List.set_cons_succ]
    refine wpAnyH_take (i := 7) (v := ?v9) rfl (by kernel_rfl) (by kernel_rfl) (by kernel_rfl) (fun _ _ _ h => h) (Or.inl ⟨by kernel_rfl, ?hy9⟩) (by assumption) ?rest9
    case hy9 => (intro w hSw; (try dsimp only at hSw); go_simp; all_goals with_reducible rfl)
    try simp only [Act.put, List.getElem_toArray, List.getElem_cons_succ, List.getElem_cons_zero, List.setIfInBounds_toArray, List.set_cons_zero, List.set_cons_succ]
    refine wpAnyH_take (i := 8) (v := ?v10) rfl (by kernel_rfl) (by kernel_rfl) (by kernel_rfl) (fun _ _ _ h => h) (Or.inl ⟨by kernel_rfl, ?hy10⟩) (by assumption) ?rest10
    case hy10 => (intro w hSw; (try dsimp only at hSw); go_simp; all_goals with_reducible rfl)
    try simp only [Act.put, List.getElem_toArray, List.getElem_cons_succ, List.getElem_cons_zero, List.setIfInBounds_toArray, List.set_cons_zero, List.set_cons_succ]
    refine wpAnyH_take (i := 9) (v := ?v11) rfl (by kernel_rfl) (by kernel_rfl) (by kernel_rfl) (fun _ _ _ h => h) (Or.inl ⟨by kernel_rfl, ?hy11⟩) (by assumption) ?rest11
    case hy11 => (intro w hSw; (try dsimp only at hSw); go_simp; all_goals with_reducible rfl)
    try simp only [Act.put, List.getElem_toArray, List.getElem_cons_succ, List.getElem_cons_zero, List.setIfInBounds_toArray, List.set_cons_zero, List.set_cons_succ]
    refine wpAnyH_take (i := 10) (v := ?v12) rfl (by kernel_rfl) (by kernel_rfl) (by kernel_rfl) (fun _ _ _ h => h) (Or.inl ⟨by kernel_rfl, ?hy12⟩) (by assumption) ?rest12
    case hy12 => (intro w hSw; (try dsimp only at hSw); go_simp; all_goals with_reducible rfl)
    try simp only [Act.put, List.getElem_toArray, List.getElem_cons_succ, List.getElem_cons_zero, List.setIfInBounds_toArray, List.set_cons_zero, List.set_cons_succ]
    refine wpAnyH_take (i := 11) (v := ?v13) rfl (by kernel_rfl) (by kernel_rfl) (by kernel_rfl) (fun _ _ _ h => h) (Or.inl ⟨by kernel_rfl, ?hy13⟩) (by assumption) ?rest13
    case hy13 => (intro w hSw; (try dsimp only at hSw); go_simp; all_goals with_reducible rfl)
    try simp only [Act.put, List.getElem_toArray, List.getElem_cons_succ, List.getElem_cons_zero, List.setIfInBounds_toArray, List.set_cons_zero, List.set_cons_succ]
    refine wpAnyH_take (i := 12) (v := ?v14) rfl (by kernel_rfl) (by kernel_rfl) (by kernel_rfl) (fun _ _ _ h => h) (Or.inl ⟨by kernel_rfl, ?hy14⟩) (by assumption) ?rest14
    case hy14 => (intro w hSw; (try dsimp only at hSw); go_simp; all_goals with_reducible rfl)
    try simp only [Act.put, List.getElem_toArray, List.getElem_cons_succ, List.getElem_cons_zero, List.setIfInBounds_toArray, List.set_cons_zero, List.set_cons_succ]
    refine wpAnyH_ready (rs := [13]) (by kernel_rfl) (by simp) ?_
    refine AllReadyH.cons rfl (fun K hK => ?_) AllReadyH.nil
    go_simp
    refine (sSize k s bl _).mono ?_; rintro e w3 ⟨rfl, h3⟩; have t3 : Tch [] W1 w3 := t2.trans h3.out; rw [← HZ.out]
    dsimp only
    refine hK.out _ _ ?_ (fun hHeld => ?_)
    focus (refine KA.out _ ?_; first | exact t4 | exact t3 | exact t2 | exact TU.out | exact TP2.out | exact Tch.drewN W1 1)
    clear hK K
    try simp only [Act.put, List.getElem_toArray, List.getElem_cons_succ, List.getElem_cons_zero, List.setIfInBounds_toArray, List.set_cons_zero, List.set_cons_succ]
    refine wpAnyH_take (i := 14) (v := ?v15) rfl (by kernel_rfl) (by kernel_rfl) (by kernel_rfl) (fun _ _ _ h => h) (Or.inl ⟨by kernel_rfl, ?hy15⟩) (by assumption) ?rest15
    case hy15 => (intro w hSw; (try dsimp only at hSw); go_simp; all_goals with_reducible rfl)
    try simp only [Act.put, List.getElem_toArray, List.getElem_cons_succ, List.getElem_cons_zero, List.setIfInBounds_toArray, List.set_cons_zero, List.set_cons_succ]
    refine wpAnyH_ready (rs := [15]) (by kernel_rfl) (by simp) ?_
    refine AllReadyH.cons rfl (fun K hK => ?_) AllReadyH.nil
    go_simp
    refine (lHeavy k s bl _ _ _ _).mono ?_; rintro e w4 ⟨hv, rfl, h4⟩; have t4 : Tch [] W1 w4 := t3.trans h4.out
    dsimp only
    refine hK.out _ _ ?_ (fun hHeld => ?_)
    focus (refine KA.out _ ?_; first | exact t4 | exact t3 | exact t2 | exact TU.out | exact TP2.out | exact Tch.drewN W1 1)
    clear hK K
    try simp only [Act.put, List.getElem_toArray, List.getElem_cons_succ, List.getElem_cons_zero, List.setIfInBounds_toArray, List.set_cons_zero, List.set_cons_succ]
    refine wpAnyH_take (i := 16) (v := ?v16) rfl (by kernel_rfl) (by kernel_rfl) (by kernel_rfl) (fun _ _ _ h => h) (Or.inl ⟨by kernel_rfl, ?hy16⟩) (by assumption) ?rest16
    case hy16 => (intro w hSw; (try dsimp only at hSw); go_simp; all_goals with_reducible rfl)
    try simp only [Act.put, List.getElem_toArray, List.getElem_cons_succ, List.getElem_cons_zero, List.setIfInBounds_toArray, List.set_cons_zero, List.set_cons_succ]
    refine wpAnyH_done (by kernel_rfl) ?_ _
    have T4 : Hid (Tch [] w w4) := CT.out _ t4
    obtain ⟨d0, d1, d2⟩ := KA.out _ t4
    have t4' := Lib.hid t4
    clear t4 t3 t2 h3 h4 hw2 c0 c1 c2 hcv HCV HU HP2 TP2 TU KA HLS HLG
    cases hv with
    | true =>
      go_wp2
      go_ret
      exact ⟨rfl, T4.out⟩
    | false =>
      go_wp2
      refine J2.out _ _ (wp_seq_k (fun K3 k3 => ?_))
      have J3 := Lib.hid k3
      clear k3
      go_wp2_with (fail)
      refine (sSize k s bl w4).mono ?_
      rintro e W5 ⟨rfl, h5⟩
      have T5 : Hid (Tch [] w W5) := T4.out.trans h5.out
      have c0 := h5.out.cell d0 (by simp)
      have c1 := h5.out.cell d1 (by simp)
      have c2 := h5.out.cell d2 (by simp)
      rw [← HZ.out]
      clear h5 d0 d1 d2
      go_wp2
      obtain ⟨x, hx⟩ : ∃ x : Nat, x = n % (255 * Z + 1) := ⟨_, rfl⟩
      obtain ⟨y, hy⟩ : ∃ y : Nat, y = m % (255 * Z + 1) := ⟨_, rfl⟩
      have hmx : (n : Int).tmod (255 * (Z : Int) + 1) = (x : Int) := by
        rw [hx, Int.tmod_eq_emod_of_nonneg (by omega)]; push_cast; rfl
      have hmy : (m : Int).tmod (255 * (Z : Int) + 1) = (y : Int) := by
        rw [hy, Int.tmod_eq_emod_of_nonneg (by omega)]; push_cast; rfl
      have hx1 : x ≤ 255 * Z := by rw [hx]; have := Nat.mod_lt n (show 0 < 255 * Z + 1 by omega); omega
      have hy1 : y ≤ 255 * Z := by rw [hy]; have := Nat.mod_lt m (show 0 < 255 * Z + 1 by omega); omega
      have HX1 := Lib.hid hx1
      have HY1 := Lib.hid hy1
      have bx : (x : Int) ≤ 8160 := by omega
      have bY : (y : Int) ≤ 8160 := by omega
      clear hx hy hx1 hy1
      refine J3.out _ _ (wp_seq_k (fun K4 k4 => ?_))
      have J4 := Lib.hid k4
      clear k4
      have d0 := c0
      have d1 := c1
      have d2 := c2
      clear c0 c1 c2
      go_quiet (fail)
      clear hmx hmy
      generalize hWq : World.drewN _ _ = Wq
      have tq : Tch [] W5 Wq := by rw [← hWq]; exact Tch.drewN _ _
      have Tq : Hid (Tch [] w Wq) := T5.out.trans tq
      have c0 := tq.cell d0 (by simp)
      have c1 := tq.cell d1 (by simp)
      have c2 := tq.cell d2 (by simp)
      clear hWq tq d0 d1 d2
      go_wp2
      refine J4.out _ _ (wp_seq_k (fun K5 k5 => ?_))
      have J5 := Lib.hid k5
      clear k5
      by_cases hxy : (y : Int) < (x : Int)
      · have HXY : Hid (y ≤ x) := by show _ ≤ _; omega
        go_wp2
        clear hxy
        refine J5.out _ _ (wp_seq_k (fun K6 k6 => ?_))
        have J6 := Lib.hid k6
        clear k6
        go_wp2_with (fail)
        refine (iExpand kt k s bl prk info y _ _ (HK.out.tch Tq.out (by simp)) (Rprk.out.tchNil Tq.out) (by have := HLEN.out; omega) (by omega) (by rw [← HZ.out]; exact HY1.out)).mono ?_
        rintro e W6 ⟨v6, rfl, h6⟩
        have t6 := h6.out.tchNil
        have T6 : Hid (Tch [] w W6) := Tq.out.trans t6
        have d0 := t6.cell c0 (by simp)
        have d1 := t6.cell c1 (by simp)
        have d2 := t6.cell c2 (by simp)
        have R6 : Hid (Rd W6 v6 (expand (kindOf kt k s bl) prk info.data.toList y)) := h6.out.1.rd
        have hl6 : (expand (kindOf kt k s bl) prk info.data.toList y).length = y := expand_length (kindOf_ok kt k s bl) _ _ _
        obtain ⟨p6, n6, rfl⟩ := rd_ex R6.out
        rw [hl6] at R6 ⊢
        clear h6 t6 hl6 c0 c1 c2
        go_wp2
        refine J6.out _ _ (wp_seq_k (fun K7 k7 => ?_))
        have J7 := Lib.hid k7
        clear k7
        go_wp2_with (fail)
        refine (iExpand kt k s bl prk info x _ _ (HK.out.tch T6.out (by simp)) (Rprk.out.tchNil T6.out) (by have := HLEN.out; omega) (by omega) (by rw [← HZ.out]; exact HX1.out)).mono ?_
        rintro e W7 ⟨v7, rfl, h7⟩
        have t7 := h7.out.tchNil
        have T7 : Hid (Tch [] w W7) := T6.out.trans t7
        have R7 : Hid (Rd W7 v7 (expand (kindOf kt k s bl) prk info.data.toList x)) := h7.out.1.rd
        have N7 : Hid (Nm v7) := h7.out.1.nm
        have S6 : Hid (Rd W7 (.slice p6 y n6) (expand (kindOf kt k s bl) prk info.data.toList y)) := R6.out.tchNil t7
        have hl7 : (expand (kindOf kt k s bl) prk info.data.toList x).length = x := expand_length (kindOf_ok kt k s bl) _ _ _
        obtain ⟨p7, n7, rfl⟩ := rd_ex R7.out
        have cap7 : x ≤ n7 := by obtain ⟨p, cap, hv, hc, _⟩ := R7.out; simp only [Value.slice.injEq] at hv; obtain ⟨_, _, rfl⟩ := hv; rw [hl7] at hc; exact hc
        have S7 : Hid (Rd W7 (.slice p7 y n7) (expand (kindOf kt k s bl) prk info.data.toList y)) := by have := upto_rd R7.out y (by rw [hl7]; exact HXY.out); rw [expand_prefix (kindOf_ok kt k s bl) _ _ _ _ HXY.out] at this; exact this
        rw [hl7] at R7 N7 ⊢
        have hs := fun w => run_upto w _ _ n7 y p7 rfl N7.out (by have := HXY.out; omega)
        simp only [upto] at hs
        clear h7 t7 hl7 R6 d0 d1 d2
        have CAP7 := Lib.hid cap7
        clear cap7
        go_wp2
        refine J7.out _ _ ?_
        go_wp2_with (fail)
        refine (lSame _ _ _ _ W7 S6.out S7.out).mono ?_
        rintro e W8 ⟨rfl, rfl⟩
        go_wp2
        go_ret
        exact ⟨by simp, T7.out⟩
      · have HXY : Hid (x ≤ y) := by show _ ≤ _; omega
        go_wp2
        clear hxy
        refine J5.out _ _ (wp_seq_k (fun K6 k6 => ?_))
        have J6 := Lib.hid k6
        clear k6
        go_wp2_with (fail)
        refine (iExpand kt k s bl prk info x _ _ (HK.out.tch Tq.out (by simp)) (Rprk.out.tchNil Tq.out) (by have := HLEN.out; omega) (by omega) (by rw [← HZ.out]; exact HX1.out)).mono ?_
        rintro e W6 ⟨v6, rfl, h6⟩
        have t6 := h6.out.tchNil
        have T6 : Hid (Tch [] w W6) := Tq.out.trans t6
        have d0 := t6.cell c0 (by simp)
        have d1 := t6.cell c1 (by simp)
        have d2 := t6.cell c2 (by simp)
        have R6 : Hid (Rd W6 v6 (expand (kindOf kt k s bl) prk info.data.toList x)) := h6.out.1.rd
        have hl6 : (expand (kindOf kt k s bl) prk info.data.toList x).length = x := expand_length (kindOf_ok kt k s bl) _ _ _
        obtain ⟨p6, n6, rfl⟩ := rd_ex R6.out
        rw [hl6] at R6 ⊢
        clear h6 t6 hl6 c0 c1 c2
        go_wp2
        refine J6.out _ _ (wp_seq_k (fun K7 k7 => ?_))
        have J7 := Lib.hid k7
        clear k7
        go_wp2_with (fail)
        refine (iExpand kt k s bl prk info y _ _ (HK.out.tch T6.out (by simp)) (Rprk.out.tchNil T6.out) (by have := HLEN.out; omega) (by omega) (by rw [← HZ.out]; exact HY1.out)).mono ?_
        rintro e W7 ⟨v7, rfl, h7⟩
        have t7 := h7.out.tchNil
        have T7 : Hid (Tch [] w W7) := T6.out.trans t7
        have R7 : Hid (Rd W7 v7 (expand (kindOf kt k s bl) prk info.data.toList y)) := h7.out.1.rd
        have N7 : Hid (Nm v7) := h7.out.1.nm
        have S6 : Hid (Rd W7 (.slice p6 x n6) (expand (kindOf kt k s bl) prk info.data.toList x)) := R6.out.tchNil t7
        have hl7 : (expand (kindOf kt k s bl) prk info.data.toList y).length = y := expand_length (kindOf_ok kt k s bl) _ _ _
        obtain ⟨p7, n7, rfl⟩ := rd_ex R7.out
        have cap7 : y ≤ n7 := by obtain ⟨p, cap, hv, hc, _⟩ := R7.out; simp only [Value.slice.injEq] at hv; obtain ⟨_, _, rfl⟩ := hv; rw [hl7] at hc; exact hc
        have S7 : Hid (Rd W7 (.slice p7 x n7) (expand (kindOf kt k s bl) prk info.data.toList x)) := by have := upto_rd R7.out x (by rw [hl7]; exact HXY.out); rw [expand_prefix (kindOf_ok kt k s bl) _ _ _ _ HXY.out] at this; exact this
        rw [hl7] at R7 N7 ⊢
        have hs := fun w => run_upto w _ _ n7 x p7 rfl N7.out (by have := HXY.out; omega)
        simp only [upto] at hs
        clear h7 t7 hl7 R6 d0 d1 d2
        have CAP7 := Lib.hid cap7
        clear cap7
        go_wp2
        refine J7.out _ _ ?_
        go_wp2_with (fail)
        refine (lSame _ _ _ _ W7 S6.out S7.out).mono ?_
        rintro e W8 ⟨rfl, rfl⟩
        go_wp2
        go_ret
        exact ⟨by simp, T7.out⟩
end Go.Proofs.Ytgomodhhomekpaa
