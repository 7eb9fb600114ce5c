/-
  FnIsMac: its walk.
-/
import Derived.Test.YtgomodhhomekpaaM6
namespace Go.Proofs.Ytgomodhhomekpaa
open Go.RowKit Pu Ar
set_option maxHeartbeats 2000000 in
set_option maxRecDepth 100000 in
theorem fnIsMac (kt : List UInt32) (k s bl : Int) (secret : By) (salt : By) (secretV : Value) (saltV : Value) (w : World) (hK : KIs w kt) (hsecret : Rd w secretV secret ∧ Nm secretV) (hsalt : Rd w saltV salt ∧ Nm saltV) :
    Calls Try.prog 16 #[.agg #[.int .i64 k, .int .i64 s, .int .i64 bl], secretV, saltV] w fun e w' => e = .returned (.bool true) ∧ Hid (Tch [] w w') := by
  obtain ⟨hsecret, hsecretN⟩ := hsecret
  obtain ⟨secretp, secretc, rfl⟩ := rd_ex hsecret
  have Rsecret := Lib.hid hsecret
  have Nsecret := Lib.hid hsecretN
  clear hsecret hsecretN
  obtain ⟨hsalt, hsaltN⟩ := hsalt
  obtain ⟨saltp, saltc, rfl⟩ := rd_ex hsalt
  have Rsalt := Lib.hid hsalt
  have Nsalt := Lib.hid hsaltN
  clear hsalt hsaltN
  have HK := Lib.hid hK
  clear hK
  go_enter Try.func16, Try.ntmps16
  refine wp_seq_k (fun K0 k0 => ?_)
  have J0 := Lib.hid k0
  clear k0
  go_wp2
  generalize hW1 : World.alloc _ _ = W1
  have R1 : Row W1 w.heap.size 23 [.int .i64 k, .int .i64 s, .int .i64 bl] := by rw [← hW1]; exact Row.new w 23 _
  have T1 : Hid (Tch [] w W1) := by rw [← hW1]; exact Tch.alloc _ _
  have HR1 := Lib.hid R1
  clear hW1 R1
  obtain ⟨c, hc⟩ : ∃ c, c = w.heap.size := ⟨_, rfl⟩
  rw [← hc] at HR1 ⊢
  clear hc
  refine J0.out _ _ (wp_seq_k (fun K1 k1 => ?_))
  have J1 := Lib.hid k1
  clear k1
  by_cases zsecret : 2147483647 < (secret.length : Int)
  · go_wp2
    go_ret
    exact ⟨rfl, T1.out⟩
  by_cases zsalt : 2147483647 < (salt.length : Int)
  · go_wp2
    go_ret
    exact ⟨rfl, T1.out⟩
  go_wp2
  refine J1.out _ _ (wp_seq_k (fun K2 k2 => ?_))
  have J2 := Lib.hid k2
  clear k2
  go_wp2_with (fail)
  refine (lLong [secret, salt] _ _ (prd_two (Rsecret.out.tchNil T1.out) (Rsalt.out.tchNil T1.out)) (by
    intro p hp
    simp only [List.mem_cons, List.not_mem_nil, or_false] at hp
    rcases hp with rfl | rfl <;> omega)).mono ?_
  rintro e W2 ⟨rfl, hW2⟩
  have R2 : Hid (Row W2 c 23 [.int .i64 k, .int .i64 s, .int .i64 bl]) := by rw [← hW2]; exact HR1.out.alloc _
  have T2 : Hid (Tch [] w W2) := by rw [← hW2]; exact T1.out.trans (Tch.alloc _ _)
  clear hW2 HR1 T1
  obtain ⟨t, ht⟩ : ∃ t, t = decide (1048576 < [secret, salt].flatten.length) := ⟨_, rfl⟩
  rw [← ht]
  have HTL := Lib.hid ht
  clear ht
  have c0 : W2.cell? ⟨c, 0, none⟩ = some (.int .i64 k) := by rw [R2.out.cell]; rfl
  have c1 : W2.cell? ⟨c, 1, none⟩ = some (.int .i64 s) := by rw [R2.out.cell]; rfl
  have c2 : W2.cell? ⟨c, 2, none⟩ = some (.int .i64 bl) := by rw [R2.out.cell]; rfl
  cases t with
  | true =>
    go_wp2
    go_ret
    exact ⟨rfl, T2.out⟩
  | false =>
    have hlen : [secret, salt].flatten.length ≤ 1048576 := by
      have := HTL.out
      have := of_decide_eq_false this.symm
      omega
    have HLEN : Hid (secret.length + salt.length ≤ 1048576) := by simp only [List.flatten_cons, List.flatten_nil, List.append_nil, List.length_append] at hlen; show _ ≤ _; omega
    clear hlen HTL
    go_wp2
    refine J2.out _ _ (wp_seq_k (fun K3 j3 => ?_))
    have J3 := Lib.hid j3
    clear j3
    go_wp2_with (fail)
    refine (iExtract kt k s bl secret salt _ _ W2 (HK.out.tch T2.out (by simp)) (Rsecret.out.tchNil T2.out) (Rsalt.out.tchNil T2.out) (by have := HLEN.out; omega) (by have := HLEN.out; omega)).mono ?_
    rintro e W4 ⟨got, rfl, h4⟩
    have T4 : Hid (Tch [] w W4) := T2.out.trans h4.out.tchNil
    have R4 : Hid (Row W4 c 23 [.int .i64 k, .int .i64 s, .int .i64 bl]) := R2.out.tch h4.out.tchNil (by simp)
    have GD : Hid (Rd W4 got (mac (kindOf kt k s bl) salt secret)) := by have := h4.out.1.rd; rwa [extract_isMac (kindOf_ok kt k s bl)] at this
    clear h4 R2 T2 c0 c1 c2
    have glen : (mac (kindOf kt k s bl) salt secret).length = szK k s bl := by rw [mac_length, kind_size]
    obtain ⟨gp, gc, rfl⟩ := rd_ex GD.out
    rw [glen] at GD ⊢
    obtain ⟨Z, hZ⟩ : ∃ Z, Z = szK k s bl := ⟨_, rfl⟩
    rw [← hZ] at GD ⊢
    have HZ := Lib.hid hZ
    clear hZ glen
    have c0 : W4.cell? ⟨c, 0, none⟩ = some (.int .i64 k) := by rw [R4.out.cell]; rfl
    have c1 : W4.cell? ⟨c, 1, none⟩ = some (.int .i64 s) := by rw [R4.out.cell]; rfl
    have c2 : W4.cell? ⟨c, 2, none⟩ = some (.int .i64 bl) := by rw [R4.out.cell]; rfl
    go_wp2
    refine J3.out _ _ (wp_seq_k (fun K4 j4 => ?_))
    have J4 := Lib.hid j4
    clear j4
    have KA : Hid (∀ w', Tch [] W4 w' → (w'.cell? ⟨c, 0, none⟩ = some (.int .i64 k) ∧ w'.cell? ⟨c, 1, none⟩ = some (.int .i64 s) ∧ w'.cell? ⟨c, 2, none⟩ = some (.int .i64 bl))) := fun w' h => ⟨h.cell c0 (by simp), h.cell c1 (by simp), h.cell c2 (by simp)⟩
    go_wp2_with (fail)
    refine (sSize k s bl _).mono ?_
    rintro e W5 ⟨rfl, h5⟩
    rw [← HZ.out]
    have T5 : Hid (Tch [] w W5) := T4.out.trans h5.out
    obtain ⟨c0, c1, c2⟩ := KA.out W5 h5.out
    have GD5 := Lib.hid (GD.out.tchNil h5.out)
    clear h5 R4 T4 GD
    go_wp2_with (fail)
    refine (iMac kt k s bl salt [secret] _ _ _ (HK.out.tch (T5.out.trans (Tch.alloc _ _)) (by simp)) (Rsalt.out.tchNil (T5.out.trans (Tch.alloc _ _))) (by have := HLEN.out; omega) (prd_one (Rsecret.out.tchNil T5.out)) (by have := HLEN.out; simp; omega)).mono ?_
    rintro e W6 ⟨got2, rfl, h6⟩
    have T6 : Hid (Tch [] w W6) := T5.out.trans ((Tch.alloc _ _).trans h6.out.tchNil)
    have GD6 := Lib.hid (GD5.out.tchNil ((Tch.alloc _ _).trans h6.out.tchNil))
    have GE6 : Hid (Rd W6 got2 (mac (kindOf kt k s bl) salt secret)) := by have := h6.out.1.rd; rwa [show [secret].flatten = secret by simp] at this
    clear h6 T5 GD5 c0 c1 c2
    go_wp2_with (fail)
    refine (lSame _ _ _ _ W6 GD6.out GE6.out).mono ?_
    rintro e W7 ⟨rfl, rfl⟩
    rw [decide_eq_true rfl]
    go_wp2
    refine J4.out _ _ ?_
    go_wp2
    go_ret
    exact ⟨rfl, T6.out⟩
end Go.Proofs.Ytgomodhhomekpaa
