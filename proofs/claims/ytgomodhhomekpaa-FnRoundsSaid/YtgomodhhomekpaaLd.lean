/-
  FnRounds: its walk.
-/
import Derived.Test.YtgomodhhomekpaaM6
import Derived.Test.YtgomodhhomekpaaRa
import Derived.Test.YtgomodhhomekpaaHv
import Derived.Test.YtgomodhhomekpaaSc
namespace Go.Proofs.Ytgomodhhomekpaa
open Go.RowKit Pu Ar
set_option linter.unusedSimpArgs false in
set_option maxHeartbeats 2000000 in
set_option maxRecDepth 100000 in
theorem fnRounds (kt : List UInt32) (k s bl : Int) (pw : ByteArray) (salt : By) (iter : UInt8) (saltV : Value) (w : World) (hK : KIs w kt) (hpw : pw.size ≤ maxLen) (hsalt : Rd w saltV salt ∧ Nm saltV) :
    Calls Try.prog 9 #[.agg #[.int .i64 k, .int .i64 s, .int .i64 bl], .string pw, saltV, vb iter] w fun e w' => e = .returned (.bool true) ∧ Hid (Tch [] w w') := by
  obtain ⟨hsalt, hsaltN⟩ := hsalt
  obtain ⟨saltp, saltc, rfl⟩ := rd_ex hsalt
  have Rsalt := Lib.hid hsalt
  have Nsalt := Lib.hid hsaltN
  clear hsalt hsaltN
  have hmpw := hpw
  unfold maxLen at hmpw
  clear hpw
  have ZLpw : Hid (pw.data.toList.length = pw.size) := by show pw.data.toList.length = pw.data.size; exact Array.length_toList
  obtain ⟨itern, hbiter, hviter, hmiter⟩ := vb_int iter
  have HMiter := Lib.hid hmiter
  have bbiter : (itern : Int) < 256 := by omega
  rw [hviter]
  clear hmiter hviter hbiter
  have HK := Lib.hid hK
  clear hK
  go_enter Try.func9, Try.ntmps9
  refine wp_seq_k (fun K0 k0 => ?_)
  have J0 := Lib.hid k0
  clear k0
  go_wp2
  generalize hW1 : World.alloc _ _ = W1
  have R1 : Row W1 w.heap.size 23 [.int .i64 k, .int .i64 s, .int .i64 bl] := by rw [← hW1]; exact Row.new w 23 _
  have T1 : Hid (Tch [] w W1) := by rw [← hW1]; exact Tch.alloc _ _
  have c0 : W1.cell? ⟨w.heap.size, 0, none⟩ = some (.int .i64 k) := by rw [R1.cell]; rfl
  have c1 : W1.cell? ⟨w.heap.size, 1, none⟩ = some (.int .i64 s) := by rw [R1.cell]; rfl
  have c2 : W1.cell? ⟨w.heap.size, 2, none⟩ = some (.int .i64 bl) := by rw [R1.cell]; rfl
  clear hW1 R1
  obtain ⟨c, hc⟩ : ∃ c, c = w.heap.size := ⟨_, rfl⟩
  rw [← hc] at c0 c1 c2 ⊢
  clear hc
  obtain ⟨Z, hZ⟩ : ∃ Z, Z = szK k s bl := ⟨_, rfl⟩
  have HZ := Lib.hid hZ
  have zz := szK_bd k s bl
  rw [← hZ] at zz
  clear hZ
  have z1 : (1 : Int) ≤ Z := by omega
  have z2 : (Z : Int) ≤ 32 := by omega
  clear zz
  refine J0.out _ _ (wp_seq_k (fun K1 k1 => ?_))
  have J1 := Lib.hid k1
  clear k1
  by_cases zpw : 2147483647 < (pw.size : Int)
  · go_wp2
    go_ret
    exact ⟨rfl, T1.out⟩
  by_cases zsalt : 2147483647 < (salt.length : Int)
  · go_wp2
    go_ret
    exact ⟨rfl, T1.out⟩
  have KA : Hid (∀ w', Tch [] W1 w' → (w'.cell? ⟨c, 0, none⟩ = some (.int .i64 k) ∧ w'.cell? ⟨c, 1, none⟩ = some (.int .i64 s) ∧ w'.cell? ⟨c, 2, none⟩ = some (.int .i64 bl))) := fun w' h => ⟨h.cell c0 (by simp), h.cell c1 (by simp), h.cell c2 (by simp)⟩
  have KB : Hid (∀ w', Tch [] W1 w' → (w'.cell? ⟨c, 0, none⟩ = some (.int .i64 k) ∧ w'.cell? ⟨c, 1, none⟩ = some (.int .i64 s) ∧ w'.cell? ⟨c, 2, none⟩ = some (.int .i64 bl))) := KA.out
  have KK : Hid (KIs W1 kt ∧ c < W1.heap.size) := ⟨HK.out.tch T1.out (by simp), cell_lt c0⟩
  obtain ⟨U, cc, hcv, hU⟩ := by_of_str W1 pw (by omega)
  have HU := Lib.hid hU.out
  clear hU
  have HLS : Hid (∀ p ∈ [pw.data.toList, salt], p.length ≤ 2147483647) := by
    intro p hp
    simp only [List.mem_cons, List.not_mem_nil, or_false] at hp
    have := ZLpw.out
    rcases hp with rfl | rfl <;> omega
  go_wp2
  refine J1.out _ _ (wp_seq_k (fun K2 k2 => ?_))
  have J2 := Lib.hid k2
  clear k2
  go_wp2_with (fail)
  refine (lLong [pw.data.toList, salt] _ _ (prd_two HU.out.2 (Rsalt.out.tchNil (T1.out.trans HU.out.1))) HLS.out).mono ?_
  rintro e W2 ⟨rfl, hW2⟩
  have t2 : Tch [] W1 W2 := by rw [← hW2]; exact HU.out.1.trans (Tch.alloc _ _)
  have T2 : Hid (Tch [] w W2) := T1.out.trans t2
  obtain ⟨d0, d1, d2⟩ := KA.out _ t2
  have U2 : Hid (Tch [] W1 W2) := t2
  clear hW2 t2 c0 c1 c2 HLS KA
  obtain ⟨t, ht⟩ : ∃ t, t = decide (1048576 < [pw.data.toList, salt].flatten.length) := ⟨_, rfl⟩
  rw [← ht]
  have HTL := Lib.hid ht
  clear ht hcv
  cases t with
  | true =>
    go_wp2
    go_ret
    exact ⟨rfl, T2.out⟩
  | false =>
    have HLEN : Hid (pw.size + salt.length ≤ 1048576) := by
      have h := of_decide_eq_false HTL.out.symm
      simp only [List.flatten_cons, List.flatten_nil, List.append_nil, List.length_append] at h
      have := ZLpw.out
      show _ ≤ _
      omega
    clear HTL
    go_wp2
    refine J2.out _ _ (wp_seq_k (fun K3 k3 => ?_))
    have J3 := Lib.hid k3
    clear k3
    go_wp2_with (fail)
    refine (sSize k s bl W2).mono ?_
    rintro e W3 ⟨rfl, h3⟩
    have U3 : Hid (Tch [] W1 W3) := U2.out.trans h3.out
    obtain ⟨c0, c1, c2⟩ := KB.out _ U3.out
    rw [← HZ.out]
    clear h3 d0 d1 d2 U2 T2
    have HZ1 : Hid (1 ≤ Z ∧ Z ≤ 32) := by show _ ∧ _; omega
    have HKZ : Hid ((kindOf kt k s bl).size = Z) := by show _ = _; rw [kind_size, HZ.out]
    go_wp2
    refine J3.out _ _ (wp_seq_k (fun K4 k4 => ?_))
    have J4 := Lib.hid k4
    clear k4
    obtain ⟨X, xc, hcv, hX⟩ := by_of_str W3 pw (by omega)
    have HX := Lib.hid hX.out
    clear hX
    go_wp2_with (fail)
    refine (iMac kt k s bl pw.data.toList [salt, [0, 0, 0, 1]] _ _ _ (HK.out.tch (T1.out.trans (U3.out.trans ((HX.out.1.trans (Tch.alloc _ _)).trans (Tch.alloc _ _)))) (by simp)) (HX.out.2.tchNil ((Tch.alloc _ _).trans (Tch.alloc _ _))) (by have := HLEN.out; have := ZLpw.out; omega) (prd_at2' ?_ (Tch.refl _ _) (Rsalt.out.tchNil (T1.out.trans (U3.out.trans ((HX.out.1.trans (Tch.alloc _ _)).trans (Tch.alloc _ _))))) (rd_blk ((rd_cells _ [0, 0, 0, 1] _ 4 (by simp) (by simp) (by simp [vb, show ib 0 = 0 from rfl, show ib 1 = 1 from rfl])).tchNil (Tch.alloc _ _)) (by first | rfl | (simp; done)))) (by have := HLEN.out; simp; omega)).mono ?_
    focus (first | rfl | simp)
    rintro e W4 ⟨v4, rfl, h4⟩
    have U4 : Hid (Tch [] W1 W4) := U3.out.trans (((HX.out.1.trans (Tch.alloc _ _)).trans (Tch.alloc _ _)).trans h4.out.tchNil)
    have em : mac (kindOf kt k s bl) pw.data.toList [salt, [0, 0, 0, 1]].flatten = derU (kindOf kt k s bl) pw.data.toList salt 1 0 := by simp [derU, be4]
    have O4 : Hid (Own W4 v4 (derU (kindOf kt k s bl) pw.data.toList salt 1 0)) := by have := h4.out.1; rwa [em] at this
    have hl4 : (derU (kindOf kt k s bl) pw.data.toList salt 1 0).length = Z := by rw [derU_length, HKZ.out]
    obtain ⟨p4, n4, rfl⟩ := own_ex O4.out
    rw [hl4] at O4 ⊢
    clear h4 em hl4 hcv HX c0 c1 c2 U3
    go_wp2
    refine J4.out _ _ (wp_seq_k (fun K5 k5 => ?_))
    have J5 := Lib.hid k5
    clear k5
    go_wp2
    refine J5.out _ _ (wp_seq_k (fun K6 k6 => ?_))
    have J6 := Lib.hid k6
    clear k6
    go_wp2_with (fail)
    refine (sJoined [derU (kindOf kt k s bl) pw.data.toList salt 1 0] _ _ (prd_one O4.out.rd) (by have := HKZ.out; have := HZ1.out; simp [derU_length]; omega)).mono ?_
    rintro e W5 ⟨v5, rfl, h5⟩
    have ta : Tch [] W4 W5 := (Tch.alloc _ _).trans h5.out.2.1
    have U5 : Hid (Tch [] W1 W5) := U4.out.trans ta
    have O5 : Hid (Own W5 v5 (derF (kindOf kt k s bl) pw.data.toList salt 1 0)) := by have := h5.out.1; show Own _ _ _; simpa [derF] using this
    have hl5 : (derF (kindOf kt k s bl) pw.data.toList salt 1 0).length = Z := by rw [derF_length, HKZ.out]
    have hne : derF (kindOf kt k s bl) pw.data.toList salt 1 0 ≠ [] := by
      intro e
      rw [e] at hl5
      have := HZ1.out
      simp at hl5
      omega
    obtain ⟨g, cap, rfl, hoc⟩ := O5.out.c hne
    rw [hl5] at O5 h5 ⊢
    have S5 : Hid (RDS W1 W5 (kindOf kt k s bl) pw.data.toList salt g cap 0 (.slice p4 Z n4)) := by
      have hg : (W4.alloc (.cells #[.slice p4 Z n4] 24)).heap.size ≤ g := by
        rcases h5.out.2.2 with h | ⟨g', h, hg⟩
        · cases h
        · simp only [Value.ownBlock, Option.some.injEq] at h; omega
      have hg4 : W4.heap.size ≤ g := by have := hg; rw [World.size_alloc] at this; omega
      refine ⟨O4.out.rd.tchNil ta, ?_, hoc, U5.out, Nat.le_trans U4.out.size hg4⟩
      intro b hb hm
      rw [List.mem_singleton.1 hm] at hb
      have := O4.out.lt g hb
      omega
    clear h5 ta hoc hl5 hne O5 U5 U4 O4
    obtain ⟨M, hM⟩ : ∃ M, M = itern % 20 := ⟨_, rfl⟩
    have hmM : (itern : Int) % 20 = (M : Int) := by omega
    have hMi : (M : Int) ≤ 19 := by omega
    have HM2 : Hid (M ≤ 19) := by show _ ≤ _; omega
    have HDE : Hid (∀ (u : Value) (W : World), KIs W kt → Rd W u salt → Calls Try.prog 37 #[.agg #[.int .i64 k, .int .i64 s, .int .i64 bl], .string pw, u, .int .i64 (1 + (M : Int)), .int .i64 (Z : Int)] W (IDE W (fun w v => Rd w v (derive (kindOf kt k s bl) pw.data.toList salt M Z) ∧ Nm v) true)) := fun u W h1 h2 => by
      rw [Int.add_comm]
      exact iDerive kt k s bl pw salt M Z u W h1 h2 (by have := HLEN.out; omega) (by have := HLEN.out; omega) HZ1.out.1 (by have := HZ1.out; omega) (by have := HM2.out; omega)
    clear hM
    go_wp2
    refine J6.out _ _ (wp_seq_k (fun K7 k7 => ?_))
    have J7 := Lib.hid k7
    clear k7
    refine wp_seq_k (fun K8 k8 => ?_)
    have J8 := Lib.hid k8
    clear k8
    go_wp2
    simp only [hmM]
    refine J8.out _ _ (wp_block ?_)
    obtain ⟨b0, b1, b2⟩ := KB.out _ (Tch.refl _ _)
    refine rdLoop _ W1 W5 ⟨rfl, rfl⟩ _ kt k s bl pw salt _ c g cap M Z KK.out.1 S5.out HKZ.out (by have := HLEN.out; omega) (by have := HM2.out; omega) b0 b1 b2 rfl rfl rfl rfl rfl rfl ?_
    rintro a' w' ⟨f, sm, h6⟩
    refine J7.out _ _ ?_
    obtain ⟨c0, c1, c2⟩ := KB.out _ h6.out.2
    have s1 : G a' 1 = .string pw := sm.get 1 rfl
    have s2 : G a' 2 = .slice saltp salt.length saltc := sm.get 2 rfl
    have s3 : G a' 3 = .int .u8 (itern : Int) := sm.get 3 rfl
    have s4 : G a' 4 = .pointer (some ⟨c, 0, none⟩) := sm.get 4 rfl
    have s9 : G a' 9 = .int .i64 (Z : Int) := sm.get 9 rfl
    have s11 : G a' 11 = .slice (some ⟨g, 0, none⟩) Z cap := sm.get 11 rfl
    have hw : Rd w' (.slice (some ⟨g, 0, none⟩) Z cap) (derF (kindOf kt k s bl) pw.data.toList salt 1 M) := by
      have := h6.out.1.own.rd
      rwa [derF_length, HKZ.out] at this
    have R6 := Lib.hid hw
    have T6 : Hid (Tch [] w w') := T1.out.trans h6.out.2
    rw [lit90 a' f]
    simp only [s1, s2, s3, s4, s9, s11]
    clear f sm s1 s2 s3 s4 s9 s11 b0 b1 b2 hw h6 S5
    refine wp_seq_k (fun K10 k10 => ?_)
    have J10 := Lib.hid k10
    clear k10
    go_wp2_with (fail)
    refine (HDE.out _ _ (HK.out.tch T6.out (by simp)) (Rsalt.out.tchNil T6.out)).mono ?_
    rintro e W7 ⟨v7, rfl, h7⟩
    have T7 : Hid (Tch [] w W7) := T6.out.trans h7.out.2
    have R7 : Hid (Rd W7 v7 (derF (kindOf kt k s bl) pw.data.toList salt 1 M)) := by
      have e := derive_one (kindOf_ok kt k s bl) pw.data.toList salt M
      rw [HKZ.out] at e
      rw [← e]; exact h7.out.1.1
    have S6 : Hid (Rd W7 (.slice (some ⟨g, 0, none⟩) Z cap) (derF (kindOf kt k s bl) pw.data.toList salt 1 M)) := R6.out.tchNil h7.out.2
    clear h7 c0 c1 c2
    go_wp2
    refine J10.out _ _ (wp_seq_k (fun K11 k11 => ?_))
    have J11 := Lib.hid k11
    clear k11
    go_wp2_with (fail)
    refine (lSame _ _ _ _ W7 R7.out S6.out).mono ?_
    rintro e W8 ⟨rfl, rfl⟩
    go_wp2
    refine J11.out _ _ ?_
    go_wp2
    go_ret
    exact ⟨by simp, T7.out⟩
end Go.Proofs.Ytgomodhhomekpaa
