/-
  FnRefused: its walk.
-/
import Derived.Test.YtgomodhhomekpaaM6
import Derived.Test.YtgomodhhomekpaaPe
import Derived.Test.YtgomodhhomekpaaHv
namespace Go.Proofs.Ytgomodhhomekpaa
open Go.RowKit Pu Ar
set_option linter.unusedSimpArgs false in
set_option maxHeartbeats 2000000 in
set_option maxRecDepth 100000 in
theorem fnRefused (kt : List UInt32) (k s bl : Int) (pw : ByteArray) (salt : By) (iter : UInt8) (n : Nat) (saltV : Value) (w : World) (hK : KIs w kt) (hpw : pw.size ≤ maxLen) (hsalt : Rd w saltV salt ∧ Nm saltV) (hn : n < 65536) :
    Calls Try.prog 23 #[.agg #[.int .i64 k, .int .i64 s, .int .i64 bl], .string pw, saltV, vb iter, .int .u16 n] w fun e w' => e = .returned (.bool true) ∧ Hid (Tch [] w w') := by
  obtain ⟨hsalt, hsaltN⟩ := hsalt
  obtain ⟨saltp, saltc, rfl⟩ := rd_ex hsalt
  have Rsalt := Lib.hid hsalt
  have Nsalt := Lib.hid hsaltN
  clear hsalt hsaltN
  have hmpw := hpw
  unfold maxLen at hmpw
  clear hpw
  have ZLpw : Hid (pw.data.toList.length = pw.size) := by show pw.data.toList.length = pw.data.size; exact Array.length_toList
  obtain ⟨itern, hbiter, hviter, hmiter⟩ := vb_int iter
  have HMiter := Lib.hid hmiter
  have bbiter : (itern : Int) < 256 := by omega
  rw [hviter]
  clear hmiter hviter hbiter
  have hbn : (n : Int) < 65536 := by omega
  clear hn
  have HK := Lib.hid hK
  clear hK
  go_enter Try.func23, Try.ntmps23
  refine wp_seq_k (fun K0 k0 => ?_)
  have J0 := Lib.hid k0
  clear k0
  go_wp2
  generalize hW1 : World.alloc _ _ = W1
  have R1 : Row W1 w.heap.size 23 [.int .i64 k, .int .i64 s, .int .i64 bl] := by rw [← hW1]; exact Row.new w 23 _
  have T1 : Hid (Tch [] w W1) := by rw [← hW1]; exact Tch.alloc _ _
  have c0 : W1.cell? ⟨w.heap.size, 0, none⟩ = some (.int .i64 k) := by rw [R1.cell]; rfl
  have c1 : W1.cell? ⟨w.heap.size, 1, none⟩ = some (.int .i64 s) := by rw [R1.cell]; rfl
  have c2 : W1.cell? ⟨w.heap.size, 2, none⟩ = some (.int .i64 bl) := by rw [R1.cell]; rfl
  clear hW1 R1
  obtain ⟨c, hc⟩ : ∃ c, c = w.heap.size := ⟨_, rfl⟩
  rw [← hc] at c0 c1 c2 ⊢
  clear hc
  obtain ⟨Z, hZ⟩ : ∃ Z, Z = szK k s bl := ⟨_, rfl⟩
  have HZ := Lib.hid hZ
  have zz := szK_bd k s bl
  rw [← hZ] at zz
  clear hZ
  have z1 : (1 : Int) ≤ Z := by omega
  have z2 : (Z : Int) ≤ 32 := by omega
  clear zz
  refine J0.out _ _ (wp_seq_k (fun K1 k1 => ?_))
  have J1 := Lib.hid k1
  clear k1
  by_cases zpw : 2147483647 < (pw.size : Int)
  · go_wp2
    go_ret
    exact ⟨rfl, T1.out⟩
  by_cases zsalt : 2147483647 < (salt.length : Int)
  · go_wp2
    go_ret
    exact ⟨rfl, T1.out⟩
  have KA : Hid (∀ w', Tch [] W1 w' → (w'.cell? ⟨c, 0, none⟩ = some (.int .i64 k) ∧ w'.cell? ⟨c, 1, none⟩ = some (.int .i64 s) ∧ w'.cell? ⟨c, 2, none⟩ = some (.int .i64 bl))) := fun w' h => ⟨h.cell c0 (by simp), h.cell c1 (by simp), h.cell c2 (by simp)⟩
  obtain ⟨U, cc, hcv, hU⟩ := by_of_str W1 pw (by omega)
  have HU := Lib.hid hU.out
  clear hU
  have HLS : Hid (∀ p ∈ [pw.data.toList, salt], p.length ≤ 2147483647) := by
    intro p hp
    simp only [List.mem_cons, List.not_mem_nil, or_false] at hp
    have := ZLpw.out
    rcases hp with rfl | rfl <;> omega
  go_wp2
  refine J1.out _ _ (wp_seq_k (fun K2 k2 => ?_))
  have J2 := Lib.hid k2
  clear k2
  go_wp2_with (fail)
  refine (lLong [pw.data.toList, salt] _ _ (prd_two HU.out.2 (Rsalt.out.tchNil (T1.out.trans HU.out.1))) HLS.out).mono ?_
  rintro e W2 ⟨rfl, hW2⟩
  have t2 : Tch [] W1 W2 := by rw [← hW2]; exact HU.out.1.trans (Tch.alloc _ _)
  have T2 : Hid (Tch [] w W2) := T1.out.trans t2
  obtain ⟨d0, d1, d2⟩ := KA.out _ t2
  clear hW2 t2 c0 c1 c2 HLS KA
  obtain ⟨t, ht⟩ : ∃ t, t = decide (1048576 < [pw.data.toList, salt].flatten.length) := ⟨_, rfl⟩
  rw [← ht]
  have HTL := Lib.hid ht
  clear ht hcv
  cases t with
  | true =>
    go_wp2
    go_ret
    exact ⟨rfl, T2.out⟩
  | false =>
    have HLEN : Hid (pw.size + salt.length ≤ 1048576) := by
      have h := of_decide_eq_false HTL.out.symm
      simp only [List.flatten_cons, List.flatten_nil, List.append_nil, List.length_append] at h
      have := ZLpw.out
      show _ ≤ _
      omega
    clear HTL
    have HD1 : Hid (∀ (u : Value) (W : World), KIs W kt → Rd W u salt → Calls Try.prog 37 #[.agg #[.int .i64 k, .int .i64 s, .int .i64 bl], .string pw, u, .int .i64 1, .int .i64 1] W (IDE W (fun w v => Rd w v (derive (kindOf kt k s bl) pw.data.toList salt 0 1) ∧ Nm v) true)) := fun u W h1 h2 => iDerive kt k s bl pw salt 0 1 u W h1 h2 (by have := HLEN.out; omega) (by have := HLEN.out; omega) (by omega) (by omega) (by omega)
    go_wp2
    refine J2.out _ _ (wp_seq_k (fun K3 k3 => ?_))
    have J3 := Lib.hid k3
    clear k3
    go_wp2_with (fail)
    refine (iDeriveNeg kt k s bl pw salt _ (-(n : Int)) _ W2 (HK.out.tch T2.out (by simp)) (Rsalt.out.tchNil T2.out) (by have := HLEN.out; omega) (by omega)).mono ?_
    rintro e W3 ⟨v3, rfl, h3⟩
    obtain rfl := h3.out.1
    have t3 : Tch [] W2 W3 := h3.out.2
    have T3 : Hid (Tch [] w W3) := T2.out.trans t3
    have c0 := t3.cell d0 (by simp)
    have c1 := t3.cell d1 (by simp)
    have c2 := t3.cell d2 (by simp)
    clear d0 d1 d2 h3 t3
    go_wp2
    refine J3.out _ _ (wp_seq_k (fun K4 k4 => ?_))
    have J4 := Lib.hid k4
    clear k4
    go_wp2_with (fail)
    refine (HD1.out _ W3 (HK.out.tch T3.out (by simp)) (Rsalt.out.tchNil T3.out)).mono ?_
    rintro e W4 ⟨v4, rfl, h4⟩
    have T4 : Hid (Tch [] w W4) := T3.out.trans h4.out.2
    clear h4 c0 c1 c2
    go_wp2
    refine J4.out _ _ (wp_seq_k (fun K5 k5 => ?_))
    have J5 := Lib.hid k5
    clear k5
    go_wp2
    refine J5.out _ _ ?_
    go_wp2
    go_ret
    exact ⟨rfl, T4.out⟩
end Go.Proofs.Ytgomodhhomekpaa
