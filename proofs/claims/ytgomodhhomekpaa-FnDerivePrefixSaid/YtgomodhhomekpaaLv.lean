/-
  FnDerivePrefix: its walk.
-/
import Derived.Test.YtgomodhhomekpaaM6
import Derived.Test.YtgomodhhomekpaaPe
import Derived.Test.YtgomodhhomekpaaHv
namespace Go.Proofs.Ytgomodhhomekpaa
open Go.RowKit Pu Ar
set_option linter.unusedSimpArgs false in
set_option maxHeartbeats 2000000 in
set_option maxRecDepth 100000 in
theorem fnDerivePrefix (kt : List UInt32) (k s bl : Int) (pw : ByteArray) (salt : By) (iter : UInt8) (n : Nat) (m : Nat) (saltV : Value) (w : World) (hK : KIs w kt) (hpw : pw.size ≤ maxLen) (hsalt : Rd w saltV salt ∧ Nm saltV) (hn : n < 65536) (hm : m < 65536) :
    Calls Try.prog 21 #[.agg #[.int .i64 k, .int .i64 s, .int .i64 bl], .string pw, saltV, vb iter, .int .u16 n, .int .u16 m] w fun e w' => e = .returned (.bool true) ∧ Hid (Tch [] w w') := by
  obtain ⟨hsalt, hsaltN⟩ := hsalt
  obtain ⟨saltp, saltc, rfl⟩ := rd_ex hsalt
  have Rsalt := Lib.hid hsalt
  have Nsalt := Lib.hid hsaltN
  clear hsalt hsaltN
  have hmpw := hpw
  unfold maxLen at hmpw
  clear hpw
  have ZLpw : Hid (pw.data.toList.length = pw.size) := by show pw.data.toList.length = pw.data.size; exact Array.length_toList
  obtain ⟨itern, hbiter, hviter, hmiter⟩ := vb_int iter
  have HMiter := Lib.hid hmiter
  have bbiter : (itern : Int) < 256 := by omega
  rw [hviter]
  clear hmiter hviter hbiter
  have hbn : (n : Int) < 65536 := by omega
  clear hn
  have hbm : (m : Int) < 65536 := by omega
  clear hm
  have HK := Lib.hid hK
  clear hK
  go_enter Try.func21, Try.ntmps21
  refine wp_seq_k (fun K0 k0 => ?_)
  have J0 := Lib.hid k0
  clear k0
  go_wp2
  generalize hW1 : World.alloc _ _ = W1
  have R1 : Row W1 w.heap.size 23 [.int .i64 k, .int .i64 s, .int .i64 bl] := by rw [← hW1]; exact Row.new w 23 _
  have T1 : Hid (Tch [] w W1) := by rw [← hW1]; exact Tch.alloc _ _
  have c0 : W1.cell? ⟨w.heap.size, 0, none⟩ = some (.int .i64 k) := by rw [R1.cell]; rfl
  have c1 : W1.cell? ⟨w.heap.size, 1, none⟩ = some (.int .i64 s) := by rw [R1.cell]; rfl
  have c2 : W1.cell? ⟨w.heap.size, 2, none⟩ = some (.int .i64 bl) := by rw [R1.cell]; rfl
  clear hW1 R1
  obtain ⟨c, hc⟩ : ∃ c, c = w.heap.size := ⟨_, rfl⟩
  rw [← hc] at c0 c1 c2 ⊢
  clear hc
  obtain ⟨Z, hZ⟩ : ∃ Z, Z = szK k s bl := ⟨_, rfl⟩
  have HZ := Lib.hid hZ
  have zz := szK_bd k s bl
  rw [← hZ] at zz
  clear hZ
  have z1 : (1 : Int) ≤ Z := by omega
  have z2 : (Z : Int) ≤ 32 := by omega
  clear zz
  refine J0.out _ _ (wp_seq_k (fun K1 k1 => ?_))
  have J1 := Lib.hid k1
  clear k1
  by_cases zpw : 2147483647 < (pw.size : Int)
  · go_wp2
    go_ret
    exact ⟨rfl, T1.out⟩
  by_cases zsalt : 2147483647 < (salt.length : Int)
  · go_wp2
    go_ret
    exact ⟨rfl, T1.out⟩
  have KA : Hid (∀ w', Tch [] W1 w' → (w'.cell? ⟨c, 0, none⟩ = some (.int .i64 k) ∧ w'.cell? ⟨c, 1, none⟩ = some (.int .i64 s) ∧ w'.cell? ⟨c, 2, none⟩ = some (.int .i64 bl))) := fun w' h => ⟨h.cell c0 (by simp), h.cell c1 (by simp), h.cell c2 (by simp)⟩
  obtain ⟨U, cc, hcv, hU⟩ := by_of_str W1 pw (by omega)
  have HU := Lib.hid hU.out
  clear hU
  have HLS : Hid (∀ p ∈ [pw.data.toList, salt], p.length ≤ 2147483647) := by
    intro p hp
    simp only [List.mem_cons, List.not_mem_nil, or_false] at hp
    have := ZLpw.out
    rcases hp with rfl | rfl <;> omega
  go_wp2
  refine J1.out _ _ (wp_seq_k (fun K2 k2 => ?_))
  have J2 := Lib.hid k2
  clear k2
  go_wp2_with (fail)
  refine (lLong [pw.data.toList, salt] _ _ (prd_two HU.out.2 (Rsalt.out.tchNil (T1.out.trans HU.out.1))) HLS.out).mono ?_
  rintro e W2 ⟨rfl, hW2⟩
  have t2 : Tch [] W1 W2 := by rw [← hW2]; exact HU.out.1.trans (Tch.alloc _ _)
  have T2 : Hid (Tch [] w W2) := T1.out.trans t2
  obtain ⟨d0, d1, d2⟩ := KA.out _ t2
  clear hW2 t2 c0 c1 c2 HLS KA
  obtain ⟨t, ht⟩ : ∃ t, t = decide (1048576 < [pw.data.toList, salt].flatten.length) := ⟨_, rfl⟩
  rw [← ht]
  have HTL := Lib.hid ht
  clear ht hcv
  cases t with
  | true =>
    go_wp2
    go_ret
    exact ⟨rfl, T2.out⟩
  | false =>
    have HLEN : Hid (pw.size + salt.length ≤ 1048576) := by
      have h := of_decide_eq_false HTL.out.symm
      simp only [List.flatten_cons, List.flatten_nil, List.append_nil, List.length_append] at h
      have := ZLpw.out
      show _ ≤ _
      omega
    clear HTL
    go_wp2_with (fail)
    refine (lHeavy k s bl _ _ _ W2).mono ?_
    rintro e W3 ⟨hv, rfl, h3⟩
    have T3 : Hid (Tch [] w W3) := T2.out.trans h3.out
    have c0 := h3.out.cell d0 (by simp)
    have c1 := h3.out.cell d1 (by simp)
    have c2 := h3.out.cell d2 (by simp)
    clear h3 d0 d1 d2
    cases hv with
    | true =>
      go_wp2
      go_ret
      exact ⟨rfl, T3.out⟩
    | false =>
      go_wp2
      refine J2.out _ _ (wp_seq_k (fun K3 k3 => ?_))
      have J3 := Lib.hid k3
      clear k3
      obtain ⟨M, hM⟩ : ∃ M, M = itern % 20 := ⟨_, rfl⟩
      have hmM : (itern : Int) % 20 = (M : Int) := by omega
      have hM2 : M ≤ 19 := by omega
      have hMi : (M : Int) ≤ 19 := by omega
      obtain ⟨x, hx⟩ : ∃ x : Nat, x = 1 + n % 500 := ⟨_, rfl⟩
      obtain ⟨y, hy⟩ : ∃ y : Nat, y = 1 + m % 500 := ⟨_, rfl⟩
      have hmx : (1 : Int) + (n : Int) % 500 = (x : Int) := by omega
      have hmy : (1 : Int) + (m : Int) % 500 = (y : Int) := by omega
      have HX1 : Hid (1 ≤ x ∧ x ≤ 500) := by show _ ∧ _; omega
      have HY1 : Hid (1 ≤ y ∧ y ≤ 500) := by show _ ∧ _; omega
      have bx : (x : Int) ≤ 500 := by omega
      have bY : (y : Int) ≤ 500 := by omega
      have HDE : Hid (∀ (K : Nat) (u : Value) (W : World), KIs W kt → Rd W u salt → (1 ≤ K ∧ K ≤ 500) → Calls Try.prog 37 #[.agg #[.int .i64 k, .int .i64 s, .int .i64 bl], .string pw, u, .int .i64 (1 + (M : Int)), .int .i64 (K : Int)] W (IDE W (fun w v => Rd w v (derive (kindOf kt k s bl) pw.data.toList salt M K) ∧ Nm v) true)) := fun K u W h1 h2 h3 => by
        rw [Int.add_comm]
        exact iDerive kt k s bl pw salt M K u W h1 h2 (by have := HLEN.out; omega) (by have := HLEN.out; omega) h3.1 (by omega) (by omega)
      clear hM hx hy hM2
      go_wp2
      clear hmx hmy
      have HMM := Lib.hid hmM
      have HMI := Lib.hid hMi
      clear hmM hMi
      refine J3.out _ _ (wp_seq_k (fun K4 k4 => ?_))
      have J4 := Lib.hid k4
      clear k4
      by_cases hxy : (y : Int) < (x : Int)
      · have HXY : Hid (y ≤ x) := by show _ ≤ _; omega
        go_wp2
        clear hxy
        have hmM := HMM.out
        have hMi := HMI.out
        refine J4.out _ _ (wp_seq_k (fun K5 k5 => ?_))
        have J5 := Lib.hid k5
        clear k5
        go_wp2_with (fail)
        refine (HDE.out y _ _ (HK.out.tch T3.out (by simp)) (Rsalt.out.tchNil T3.out) HY1.out).mono ?_
        rintro e W6 ⟨v6, rfl, h6⟩
        have t6 := h6.out.2
        have T6 : Hid (Tch [] w W6) := T3.out.trans t6
        have d0 := t6.cell c0 (by simp)
        have d1 := t6.cell c1 (by simp)
        have d2 := t6.cell c2 (by simp)
        have R6 : Hid (Rd W6 v6 (derive (kindOf kt k s bl) pw.data.toList salt M y)) := h6.out.1.1
        have hl6 : (derive (kindOf kt k s bl) pw.data.toList salt M y).length = y := derive_length (kindOf_ok kt k s bl) _ _ _ _
        obtain ⟨p6, n6, rfl⟩ := rd_ex R6.out
        rw [hl6] at R6 ⊢
        clear h6 t6 hl6 c0 c1 c2
        go_wp2
        refine J5.out _ _ (wp_seq_k (fun K6 k6 => ?_))
        have J6 := Lib.hid k6
        clear k6
        go_wp2_with (fail)
        refine (HDE.out x _ _ (HK.out.tch T6.out (by simp)) (Rsalt.out.tchNil T6.out) HX1.out).mono ?_
        rintro e W7 ⟨v7, rfl, h7⟩
        have t7 := h7.out.2
        have T7 : Hid (Tch [] w W7) := T6.out.trans t7
        have R7 : Hid (Rd W7 v7 (derive (kindOf kt k s bl) pw.data.toList salt M x)) := h7.out.1.1
        have N7 : Hid (Nm v7) := h7.out.1.2
        have S6 : Hid (Rd W7 (.slice p6 y n6) (derive (kindOf kt k s bl) pw.data.toList salt M y)) := R6.out.tchNil t7
        have hl7 : (derive (kindOf kt k s bl) pw.data.toList salt M x).length = x := derive_length (kindOf_ok kt k s bl) _ _ _ _
        obtain ⟨p7, n7, rfl⟩ := rd_ex R7.out
        have cap7 : x ≤ n7 := by obtain ⟨p, cap, hv, hc, _⟩ := R7.out; simp only [Value.slice.injEq] at hv; obtain ⟨_, _, rfl⟩ := hv; rw [hl7] at hc; exact hc
        have S7 : Hid (Rd W7 (.slice p7 y n7) (derive (kindOf kt k s bl) pw.data.toList salt M y)) := by have := upto_rd R7.out y (by rw [hl7]; exact HXY.out); rw [derive_prefix (kindOf_ok kt k s bl) _ _ _ _ _ HXY.out] at this; exact this
        rw [hl7] at R7 N7 ⊢
        have hs := fun w => run_upto w _ _ n7 y p7 rfl N7.out (by have := HXY.out; omega)
        simp only [upto] at hs
        clear h7 t7 hl7 R6 d0 d1 d2
        have CAP7 := Lib.hid cap7
        clear cap7
        go_wp2
        refine J6.out _ _ (wp_seq_k (fun K7 k7 => ?_))
        have J7 := Lib.hid k7
        clear k7
        go_wp2_with (fail)
        refine (lSame _ _ _ _ W7 S6.out S7.out).mono ?_
        rintro e W8 ⟨rfl, rfl⟩
        go_wp2
        refine J7.out _ _ ?_
        go_wp2
        go_ret
        exact ⟨by simp, T7.out⟩
      · have HXY : Hid (x ≤ y) := by show _ ≤ _; omega
        go_wp2
        clear hxy
        have hmM := HMM.out
        have hMi := HMI.out
        refine J4.out _ _ (wp_seq_k (fun K5 k5 => ?_))
        have J5 := Lib.hid k5
        clear k5
        go_wp2_with (fail)
        refine (HDE.out x _ _ (HK.out.tch T3.out (by simp)) (Rsalt.out.tchNil T3.out) HX1.out).mono ?_
        rintro e W6 ⟨v6, rfl, h6⟩
        have t6 := h6.out.2
        have T6 : Hid (Tch [] w W6) := T3.out.trans t6
        have d0 := t6.cell c0 (by simp)
        have d1 := t6.cell c1 (by simp)
        have d2 := t6.cell c2 (by simp)
        have R6 : Hid (Rd W6 v6 (derive (kindOf kt k s bl) pw.data.toList salt M x)) := h6.out.1.1
        have hl6 : (derive (kindOf kt k s bl) pw.data.toList salt M x).length = x := derive_length (kindOf_ok kt k s bl) _ _ _ _
        obtain ⟨p6, n6, rfl⟩ := rd_ex R6.out
        rw [hl6] at R6 ⊢
        clear h6 t6 hl6 c0 c1 c2
        go_wp2
        refine J5.out _ _ (wp_seq_k (fun K6 k6 => ?_))
        have J6 := Lib.hid k6
        clear k6
        go_wp2_with (fail)
        refine (HDE.out y _ _ (HK.out.tch T6.out (by simp)) (Rsalt.out.tchNil T6.out) HY1.out).mono ?_
        rintro e W7 ⟨v7, rfl, h7⟩
        have t7 := h7.out.2
        have T7 : Hid (Tch [] w W7) := T6.out.trans t7
        have R7 : Hid (Rd W7 v7 (derive (kindOf kt k s bl) pw.data.toList salt M y)) := h7.out.1.1
        have N7 : Hid (Nm v7) := h7.out.1.2
        have S6 : Hid (Rd W7 (.slice p6 x n6) (derive (kindOf kt k s bl) pw.data.toList salt M x)) := R6.out.tchNil t7
        have hl7 : (derive (kindOf kt k s bl) pw.data.toList salt M y).length = y := derive_length (kindOf_ok kt k s bl) _ _ _ _
        obtain ⟨p7, n7, rfl⟩ := rd_ex R7.out
        have cap7 : y ≤ n7 := by obtain ⟨p, cap, hv, hc, _⟩ := R7.out; simp only [Value.slice.injEq] at hv; obtain ⟨_, _, rfl⟩ := hv; rw [hl7] at hc; exact hc
        have S7 : Hid (Rd W7 (.slice p7 x n7) (derive (kindOf kt k s bl) pw.data.toList salt M x)) := by have := upto_rd R7.out x (by rw [hl7]; exact HXY.out); rw [derive_prefix (kindOf_ok kt k s bl) _ _ _ _ _ HXY.out] at this; exact this
        rw [hl7] at R7 N7 ⊢
        have hs := fun w => run_upto w _ _ n7 x p7 rfl N7.out (by have := HXY.out; omega)
        simp only [upto] at hs
        clear h7 t7 hl7 R6 d0 d1 d2
        have CAP7 := Lib.hid cap7
        clear cap7
        go_wp2
        refine J6.out _ _ (wp_seq_k (fun K7 k7 => ?_))
        have J7 := Lib.hid k7
        clear k7
        go_wp2_with (fail)
        refine (lSame _ _ _ _ W7 S6.out S7.out).mono ?_
        rintro e W8 ⟨rfl, rfl⟩
        go_wp2
        refine J7.out _ _ ?_
        go_wp2
        go_ret
        exact ⟨by simp, T7.out⟩
end Go.Proofs.Ytgomodhhomekpaa
