/-
  FnSizes: its walk.
-/
import Derived.Test.YtgomodhhomekpaaM6
namespace Go.Proofs.Ytgomodhhomekpaa
open Go.RowKit Pu Ar
set_option maxHeartbeats 1000000 in
set_option maxRecDepth 100000 in
/-- impl.Sizes. -/
theorem iSizes (kt : List UInt32) (k s bl : Int) (key : By) (v : Value) (w : World) (hK : KIs w kt) (hv : Rd w v key) (hl : key.length ≤ 1099511627776) :
    Calls Try.prog 39 #[.agg #[.int .i64 k, .int .i64 s, .int .i64 bl], v] w fun e w' => e = .returned (.tuple #[.int .i64 (szK k s bl), .int .i64 (blK k s bl)]) ∧ Hid (Tch [] w w') := by
  have HV := Lib.hid hv
  have HL := Lib.hid hl
  have HK := Lib.hid hK
  clear hv hl hK
  go_enter Try.func39, Try.ntmps39
  refine wp_seq_k (fun K0 k0 => ?_)
  have J0 := Lib.hid k0
  clear k0
  go_wp2
  generalize hW1 : World.alloc _ _ = W1
  have R1 : Row W1 w.heap.size 23 [.int .i64 k, .int .i64 s, .int .i64 bl] := by rw [← hW1]; exact Row.new w 23 _
  have T1 : Hid (Tch [] w W1) := by rw [← hW1]; exact Tch.alloc _ _
  have HR1 := Lib.hid R1
  clear hW1 R1
  obtain ⟨c, hc⟩ : ∃ c, c = w.heap.size := ⟨_, rfl⟩
  rw [← hc] at HR1 ⊢
  clear hc
  refine J0.out _ _ (wp_seq_k (fun K1 k1 => ?_))
  have J1 := Lib.hid k1
  clear k1
  go_wp2_with (first | (refine wpList_load_row rfl 23 _ rfl c rfl 23 #[.int .i64 k, .int .i64 s, .int .i64 bl] (0, 0) _ HR1.out Try.underlying23 rfl (by kernel_rfl) ?_) | fail)
  refine (iMac0 kt k s bl key v W1 (HK.out.tch T1.out (by simp)) (HV.out.tchNil T1.out) HL.out).mono ?_
  intro e W2 hn0
  obtain ⟨F, rfl, h2⟩ := kmNew hn0
  clear hn0
  have T2 : Hid (Tch [] w W2) := T1.out.trans h2.out.2.1
  have M2 := Lib.hid h2.out.1
  clear h2 HR1 T1
  go_wp2
  refine J1.out _ _ (wp_seq_k (fun K2 k2 => ?_))
  have J2 := Lib.hid k2
  clear k2
  go_wp2_with (fail)
  refine (kmSize _ F key [] W2 M2.out).mono ?_
  rintro e W3 ⟨rfl, rfl⟩
  rw [kind_size]
  go_wp2_with (fail)
  refine (kmBlock _ F key [] W2 M2.out).mono ?_
  rintro e W3 ⟨rfl, rfl⟩
  rw [kind_block]
  go_wp2
  refine J2.out _ _ ?_
  go_wp2
  go_ret2
  exact ⟨rfl, T2.out⟩
set_option maxHeartbeats 2000000 in
set_option maxRecDepth 100000 in
theorem fnSizes (kt : List UInt32) (k s bl : Int) (key : By) (keyV : Value) (w : World) (hK : KIs w kt) (hkey : Rd w keyV key ∧ Nm keyV) :
    Calls Try.prog 10 #[.agg #[.int .i64 k, .int .i64 s, .int .i64 bl], keyV] w fun e w' => e = .returned (.bool true) ∧ Hid (Tch [] w w') := by
  obtain ⟨hkey, hkeyN⟩ := hkey
  obtain ⟨keyp, keyc, rfl⟩ := rd_ex hkey
  have Rkey := Lib.hid hkey
  have Nkey := Lib.hid hkeyN
  clear hkey hkeyN
  have HK := Lib.hid hK
  clear hK
  go_enter Try.func10, Try.ntmps10
  refine wp_seq_k (fun K0 k0 => ?_)
  have J0 := Lib.hid k0
  clear k0
  go_wp2
  generalize hW1 : World.alloc _ _ = W1
  have R1 : Row W1 w.heap.size 23 [.int .i64 k, .int .i64 s, .int .i64 bl] := by rw [← hW1]; exact Row.new w 23 _
  have T1 : Hid (Tch [] w W1) := by rw [← hW1]; exact Tch.alloc _ _
  have HR1 := Lib.hid R1
  clear hW1 R1
  obtain ⟨c, hc⟩ : ∃ c, c = w.heap.size := ⟨_, rfl⟩
  rw [← hc] at HR1 ⊢
  clear hc
  refine J0.out _ _ (wp_seq_k (fun K1 k1 => ?_))
  have J1 := Lib.hid k1
  clear k1
  by_cases zkey : 2147483647 < (key.length : Int)
  · go_wp2
    go_ret
    exact ⟨rfl, T1.out⟩
  go_wp2
  refine J1.out _ _ (wp_seq_k (fun K2 k2 => ?_))
  have J2 := Lib.hid k2
  clear k2
  go_wp2_with (fail)
  refine (lLong [key] _ _ (prd_one (Rkey.out.tchNil T1.out)) (by
    intro p hp
    simp only [List.mem_cons, List.not_mem_nil, or_false] at hp
    subst hp; omega)).mono ?_
  rintro e W2 ⟨rfl, hW2⟩
  have R2 : Hid (Row W2 c 23 [.int .i64 k, .int .i64 s, .int .i64 bl]) := by rw [← hW2]; exact HR1.out.alloc _
  have T2 : Hid (Tch [] w W2) := by rw [← hW2]; exact T1.out.trans (Tch.alloc _ _)
  clear hW2 HR1 T1
  obtain ⟨t, ht⟩ : ∃ t, t = decide (1048576 < [key].flatten.length) := ⟨_, rfl⟩
  rw [← ht]
  have HTL := Lib.hid ht
  clear ht
  have c0 : W2.cell? ⟨c, 0, none⟩ = some (.int .i64 k) := by rw [R2.out.cell]; rfl
  have c1 : W2.cell? ⟨c, 1, none⟩ = some (.int .i64 s) := by rw [R2.out.cell]; rfl
  have c2 : W2.cell? ⟨c, 2, none⟩ = some (.int .i64 bl) := by rw [R2.out.cell]; rfl
  cases t with
  | true =>
    go_wp2
    go_ret
    exact ⟨rfl, T2.out⟩
  | false =>
    have hlen : [key].flatten.length ≤ 1048576 := by
      have := HTL.out
      have := of_decide_eq_false this.symm
      omega
    have HLEN : Hid (key.length ≤ 1048576) := by simp only [List.flatten_cons, List.flatten_nil, List.append_nil] at hlen; show _ ≤ _; omega
    clear hlen HTL
    go_wp2
    refine J2.out _ _ (wp_seq_k (fun K3 j3 => ?_))
    have J3 := Lib.hid j3
    clear j3
    have KA : Hid (∀ w', Tch [] W2 w' → (w'.cell? ⟨c, 0, none⟩ = some (.int .i64 k) ∧ w'.cell? ⟨c, 1, none⟩ = some (.int .i64 s) ∧ w'.cell? ⟨c, 2, none⟩ = some (.int .i64 bl))) := fun w' h => ⟨h.cell c0 (by simp), h.cell c1 (by simp), h.cell c2 (by simp)⟩
    go_wp2_with (fail)
    refine (iSizes kt k s bl key _ W2 (HK.out.tch T2.out (by simp)) (Rkey.out.tchNil T2.out) (by have := HLEN.out; omega)).mono ?_
    rintro e W4 ⟨rfl, h4⟩
    have T4 : Hid (Tch [] w W4) := T2.out.trans h4.out
    obtain ⟨d0, d1, d2⟩ := KA.out W4 h4.out
    clear c0 c1 c2 KA
    obtain ⟨Z, hZ⟩ : ∃ Z, Z = szK k s bl := ⟨_, rfl⟩
    obtain ⟨B, hB⟩ : ∃ B, B = blK k s bl := ⟨_, rfl⟩
    rw [← hZ, ← hB]
    have HZ := Lib.hid hZ
    have HB := Lib.hid hB
    clear hZ hB h4
    have KA : Hid (∀ w', Tch [] W4 w' → (w'.cell? ⟨c, 0, none⟩ = some (.int .i64 k) ∧ w'.cell? ⟨c, 1, none⟩ = some (.int .i64 s) ∧ w'.cell? ⟨c, 2, none⟩ = some (.int .i64 bl))) := fun w' h => ⟨h.cell d0 (by simp), h.cell d1 (by simp), h.cell d2 (by simp)⟩
    go_wp2
    refine J3.out _ _ (wp_seq_k (fun K4 j4 => ?_))
    have J4 := Lib.hid j4
    clear j4
    go_wp2_with (fail)
    refine (sSize k s bl W4).mono ?_
    rintro e W5 ⟨rfl, h5⟩
    rw [← HZ.out]
    have T5 : Hid (Tch [] W4 W5) := h5.out
    obtain ⟨c0, c1, c2⟩ := KA.out W5 T5.out
    clear h5 d0 d1 d2
    go_wp2_with (fail)
    refine (sBlock k s bl W5).mono ?_
    rintro e W6 ⟨rfl, h6⟩
    rw [← HB.out]
    have T6 : Hid (Tch [] W4 W6) := T5.out.trans h6.out
    clear c0 c1 c2 h6
    obtain ⟨c0, c1, c2⟩ := KA.out W6 T6.out
    go_wp2_with (fail)
    refine (iMac kt k s bl key [] _ (.slice none 0 0) W6 (HK.out.tch (T4.out.trans T6.out) (by simp)) (Rkey.out.tchNil (T4.out.trans T6.out)) (by have := HLEN.out; omega) ⟨_, _, rfl, Nat.le_refl _, by unfold maxLen; simp, .inl rfl⟩ (by simp)).mono ?_
    rintro e W7 ⟨got, rfl, h7⟩
    have T7 : Hid (Tch [] W4 W7) := T6.out.trans h7.out.tchNil
    have GD := h7.out.1.rd
    have glen : (mac (kindOf kt k s bl) key [].flatten).length = Z := by rw [mac_length, kind_size, HZ.out]
    obtain ⟨gp, gc, rfl⟩ := rd_ex GD
    rw [glen]
    clear h7 GD glen c0 c1 c2
    go_wp2
    refine J4.out _ _ ?_
    go_wp2
    go_ret
    exact ⟨rfl, T4.out.trans T7.out⟩
end Go.Proofs.Ytgomodhhomekpaa
