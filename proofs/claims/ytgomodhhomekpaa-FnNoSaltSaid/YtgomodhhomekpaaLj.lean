/-
  FnNoSalt: its walk.
-/
import Derived.Test.YtgomodhhomekpaaM6
namespace Go.Proofs.Ytgomodhhomekpaa
open Go.RowKit Pu Ar
set_option maxHeartbeats 2000000 in
set_option maxRecDepth 100000 in
theorem fnNoSalt (kt : List UInt32) (k s bl : Int) (secret : By) (secretV : Value) (w : World) (hK : KIs w kt) (hsecret : Rd w secretV secret ∧ Nm secretV) :
    Calls Try.prog 13 #[.agg #[.int .i64 k, .int .i64 s, .int .i64 bl], secretV] w fun e w' => e = .returned (.bool true) ∧ Hid (Tch [] w w') := by
  obtain ⟨hsecret, hsecretN⟩ := hsecret
  obtain ⟨secretp, secretc, rfl⟩ := rd_ex hsecret
  have Rsecret := Lib.hid hsecret
  have Nsecret := Lib.hid hsecretN
  clear hsecret hsecretN
  have HK := Lib.hid hK
  clear hK
  go_enter Try.func13, Try.ntmps13
  refine wp_seq_k (fun K0 k0 => ?_)
  have J0 := Lib.hid k0
  clear k0
  go_wp2
  generalize hW1 : World.alloc _ _ = W1
  have R1 : Row W1 w.heap.size 23 [.int .i64 k, .int .i64 s, .int .i64 bl] := by rw [← hW1]; exact Row.new w 23 _
  have T1 : Hid (Tch [] w W1) := by rw [← hW1]; exact Tch.alloc _ _
  have HR1 := Lib.hid R1
  clear hW1 R1
  obtain ⟨c, hc⟩ : ∃ c, c = w.heap.size := ⟨_, rfl⟩
  rw [← hc] at HR1 ⊢
  clear hc
  refine J0.out _ _ (wp_seq_k (fun K1 k1 => ?_))
  have J1 := Lib.hid k1
  clear k1
  by_cases zsecret : 2147483647 < (secret.length : Int)
  · go_wp2
    go_ret
    exact ⟨rfl, T1.out⟩
  go_wp2
  refine J1.out _ _ (wp_seq_k (fun K2 k2 => ?_))
  have J2 := Lib.hid k2
  clear k2
  go_wp2_with (fail)
  refine (lLong [secret] _ _ (prd_one (Rsecret.out.tchNil T1.out)) (by
    intro p hp
    simp only [List.mem_cons, List.not_mem_nil, or_false] at hp
    subst hp; omega)).mono ?_
  rintro e W2 ⟨rfl, hW2⟩
  have R2 : Hid (Row W2 c 23 [.int .i64 k, .int .i64 s, .int .i64 bl]) := by rw [← hW2]; exact HR1.out.alloc _
  have T2 : Hid (Tch [] w W2) := by rw [← hW2]; exact T1.out.trans (Tch.alloc _ _)
  clear hW2 HR1 T1
  obtain ⟨t, ht⟩ : ∃ t, t = decide (1048576 < [secret].flatten.length) := ⟨_, rfl⟩
  rw [← ht]
  have HTL := Lib.hid ht
  clear ht
  have c0 : W2.cell? ⟨c, 0, none⟩ = some (.int .i64 k) := by rw [R2.out.cell]; rfl
  have c1 : W2.cell? ⟨c, 1, none⟩ = some (.int .i64 s) := by rw [R2.out.cell]; rfl
  have c2 : W2.cell? ⟨c, 2, none⟩ = some (.int .i64 bl) := by rw [R2.out.cell]; rfl
  cases t with
  | true =>
    go_wp2
    go_ret
    exact ⟨rfl, T2.out⟩
  | false =>
    have hlen : [secret].flatten.length ≤ 1048576 := by
      have := HTL.out
      have := of_decide_eq_false this.symm
      omega
    have HLEN : Hid (secret.length ≤ 1048576) := by simp only [List.flatten_cons, List.flatten_nil, List.append_nil] at hlen; show _ ≤ _; omega
    clear hlen HTL
    go_wp2
    refine J2.out _ _ (wp_seq_k (fun K3 j3 => ?_))
    have J3 := Lib.hid j3
    clear j3
    go_wp2_with (fail)
    refine (iExtract kt k s bl secret [] _ _ W2 (HK.out.tch T2.out (by simp)) (Rsecret.out.tchNil T2.out) (Rd.nil _) (by have := HLEN.out; omega) (by simp)).mono ?_
    rintro e W4 ⟨got, rfl, h4⟩
    have T4 : Hid (Tch [] w W4) := T2.out.trans h4.out.tchNil
    have R4 : Hid (Row W4 c 23 [.int .i64 k, .int .i64 s, .int .i64 bl]) := R2.out.tch h4.out.tchNil (by simp)
    have GD : Hid (Rd W4 got (extract (kindOf kt k s bl) secret [])) := h4.out.1.rd
    clear h4 R2 T2 c0 c1 c2
    have glen : (extract (kindOf kt k s bl) secret []).length = szK k s bl := by rw [extract_isMac (kindOf_ok kt k s bl), mac_length, kind_size]
    obtain ⟨gp, gc, rfl⟩ := rd_ex GD.out
    rw [glen] at GD ⊢
    have hns := extract_noSalt (kindOf_ok kt k s bl) secret
    rw [kind_size] at hns
    have hz32 : szK k s bl ≤ 32 := by rw [← kind_size kt]; exact (kindOf_ok kt k s bl).size_le
    have HEQ : Hid (decide (extract (kindOf kt k s bl) secret [] = extract (kindOf kt k s bl) secret (List.replicate (szK k s bl) 0)) = true) := by
      have := hns
      exact decide_eq_true this
    obtain ⟨Z, hZ⟩ : ∃ Z, Z = szK k s bl := ⟨_, rfl⟩
    rw [← hZ] at GD HEQ hz32 ⊢
    have HZ := Lib.hid hZ
    clear hZ glen hns
    have c0 : W4.cell? ⟨c, 0, none⟩ = some (.int .i64 k) := by rw [R4.out.cell]; rfl
    have c1 : W4.cell? ⟨c, 1, none⟩ = some (.int .i64 s) := by rw [R4.out.cell]; rfl
    have c2 : W4.cell? ⟨c, 2, none⟩ = some (.int .i64 bl) := by rw [R4.out.cell]; rfl
    have KA : Hid (∀ w', Tch [] W4 w' → (w'.cell? ⟨c, 0, none⟩ = some (.int .i64 k) ∧ w'.cell? ⟨c, 1, none⟩ = some (.int .i64 s) ∧ w'.cell? ⟨c, 2, none⟩ = some (.int .i64 bl))) := fun w' h => ⟨h.cell c0 (by simp), h.cell c1 (by simp), h.cell c2 (by simp)⟩
    have HMK : Hid (∀ w, (Instr.makeSlice 24 (.int .i64 (Z : Int)) (.int .i64 (Z : Int))).run Try.prog w = .ok (.slice (some ⟨w.heap.size, 0, none⟩) Z Z) (w.alloc (.cells (List.replicate Z (Value.int .u8 0)).toArray 5))) := fun w => run_make_by Z Z (Nat.le_refl _) (by omega) w
    have HZ32 := Lib.hid hz32
    clear hz32
    go_wp2
    refine J3.out _ _ (wp_seq_k (fun K4 j4 => ?_))
    have J4 := Lib.hid j4
    clear j4
    have hmk := HMK.out
    go_region_held3 (fun w' => w'.cell? ⟨c, 0, none⟩ = some (.int .i64 k) ∧ w'.cell? ⟨c, 1, none⟩ = some (.int .i64 s) ∧ w'.cell? ⟨c, 2, none⟩ = some (.int .i64 bl)) (exact KA.out _ (by first | exact Tch.drewN W4 1 | assumption | exact Tch.trans (by assumption) (Tch.alloc _ _))) (first | (go_at_call 27; refine (sSize k s bl W4.drew).mono ?_; rintro e w5 ⟨rfl, h5⟩; have t5 : Tch [] W4 w5 := (Tch.drewN W4 1).trans h5.out; rw [← HZ.out]) | (go_at_call 27; refine (sSize k s bl w5).mono ?_; rintro e w6 ⟨rfl, h6⟩; have t6 : Tch [] W4 w6 := t5.trans h6.out; rw [← HZ.out]) | (go_at_call 32; refine (iExtract kt k s bl secret (List.replicate Z 0) _ _ _ (HK.out.tch (T4.out.trans (t6.trans (Tch.alloc _ _))) (by simp)) (Rsecret.out.tchNil (T4.out.trans (t6.trans (Tch.alloc _ _)))) (rd_cells _ (List.replicate Z 0) _ Z (by simp) (by have := HZ32.out; simp; omega) (by simp [vb, ib])) (by have := HLEN.out; omega) (by have := HZ32.out; simp; omega)).mono ?_; rintro e w7 ⟨v7, rfl, h7⟩; have t7 : Tch [] W4 w7 := (t6.trans (Tch.alloc _ _)).trans h7.out.tchNil) | (go_at_call 28; refine (lSame _ _ _ _ w7 (GD.out.tchNil t7) h7.out.1.rd).mono ?_; rintro e w8 ⟨rfl, rfl⟩; rw [HEQ.out]))
    all_goals (go_wp2; refine J4.out _ _ ?_; go_wp2; go_ret; exact ⟨rfl, T4.out.trans t7⟩)
end Go.Proofs.Ytgomodhhomekpaa
