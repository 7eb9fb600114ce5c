/-
  FnCuts' walk.
-/
import Derived.Test.YtgomodhhomekpaaM6
namespace Go.Proofs.Ytgomodhhomekpaa
open Go.RowKit Pu Ar
set_option maxHeartbeats 1000000 in
set_option maxRecDepth 100000 in
theorem fnCuts (kt : List UInt32) (k s bl : Int) (key data : By) (n : Nat) (kv dv : Value) (w : World) (hK : KIs w kt) (hk : Rd w kv key ∧ Nm kv) (hd : Rd w dv data ∧ Nm dv) (hn : n < 65536) :
    Calls Try.prog 3 #[.agg #[.int .i64 k, .int .i64 s, .int .i64 bl], kv, dv, .int .u16 n] w fun e w' => e = .returned (.bool true) ∧ Hid (Tch [] w w') := by
  obtain ⟨hk, _⟩ := hk
  obtain ⟨hd, hdn⟩ := hd
  obtain ⟨kp, kc, rfl⟩ := rd_ex hk
  obtain ⟨dp, dc, rfl⟩ := rd_ex hd
  have HKD := Lib.hid hk
  have HDD := Lib.hid hd
  have HDN := Lib.hid hdn
  have HK := Lib.hid hK
  clear hk hd hK hdn
  go_enter Try.func3, Try.ntmps3
  refine wp_seq_k (fun K0 k0 => ?_)
  have J0 := Lib.hid k0
  clear k0
  go_wp2
  generalize hW1 : World.alloc _ _ = W1
  have R1 : Row W1 w.heap.size 23 [.int .i64 k, .int .i64 s, .int .i64 bl] := by rw [← hW1]; exact Row.new w 23 _
  have T1 : Hid (Tch [] w W1) := by rw [← hW1]; exact Tch.alloc _ _
  have HR1 := Lib.hid R1
  clear hW1 R1
  obtain ⟨c, hc⟩ : ∃ c, c = w.heap.size := ⟨_, rfl⟩
  rw [← hc] at HR1 ⊢
  clear hc
  refine J0.out _ _ (wp_seq_k (fun K1 k1 => ?_))
  have J1 := Lib.hid k1
  clear k1
  by_cases hk1 : 2147483647 < (key.length : Int)
  · go_wp2
    go_ret
    exact ⟨rfl, T1.out⟩
  by_cases hd1 : 2147483647 < (data.length : Int)
  · go_wp2
    go_ret
    exact ⟨rfl, T1.out⟩
  go_wp2
  refine J1.out _ _ (wp_seq_k (fun K2 k2 => ?_))
  have J2 := Lib.hid k2
  clear k2
  go_wp2_with (fail)
  refine (lLong [key, data] _ _ (prd_two (HKD.out.tchNil T1.out) (HDD.out.tchNil T1.out)) (by
    intro p hp
    simp only [List.mem_cons, List.not_mem_nil, or_false] at hp
    rcases hp with rfl | rfl <;> omega)).mono ?_
  rintro e W2 ⟨rfl, hW2⟩
  have R2 : Hid (Row W2 c 23 [.int .i64 k, .int .i64 s, .int .i64 bl]) := by rw [← hW2]; exact HR1.out.alloc _
  have T2 : Hid (Tch [] w W2) := by rw [← hW2]; exact T1.out.trans (Tch.alloc _ _)
  clear hW2 HR1 T1
  obtain ⟨t, ht⟩ : ∃ t, t = decide (1048576 < [key, data].flatten.length) := ⟨_, rfl⟩
  rw [← ht]
  have HTL := Lib.hid ht
  clear ht
  cases t with
  | true =>
    go_wp2
    go_ret
    exact ⟨rfl, T2.out⟩
  | false =>
    have hlen : [key, data].flatten.length ≤ 1048576 := by
      have := HTL.out
      have := of_decide_eq_false this.symm
      omega
    have HLEN : Hid (key.length + data.length ≤ 1048576) := by simpa [Hid] using hlen
    clear hlen HTL
    go_wp2
    refine J2.out _ _ (wp_seq_k (fun K3 k3 => ?_))
    have J3 := Lib.hid k3
    clear k3
    obtain ⟨x, hx⟩ : ∃ x : Nat, x = n % (data.length + 1) := ⟨_, rfl⟩
    have hm : (n : Int).tmod ((data.length : Int) + 1) = (x : Int) := by
      rw [hx, Int.tmod_eq_emod_of_nonneg (by omega)]; push_cast; rfl
    have hx1 : Hid (x ≤ data.length) := by rw [hx]; have := Nat.mod_lt n (show 0 < data.length + 1 by omega); show n % (data.length + 1) ≤ data.length; omega
    clear hx
    go_wp2
    refine J3.out _ _ (wp_seq_k (fun K4 k4 => ?_))
    have J4 := Lib.hid k4
    clear k4
    have hs1 := fun w => run_upto w _ _ dc x dp rfl HDN.out (by have := HDD.out; obtain ⟨p, cap, hv, hc, _⟩ := this; simp only [Value.slice.injEq] at hv; obtain ⟨_, _, rfl⟩ := hv; have := hx1.out; omega)
    have hs2 := fun w => run_cut w _ data.length dc x dp rfl HDN.out hx1.out (by have := HDD.out; obtain ⟨p, cap, hv, hc, _⟩ := this; simp only [Value.slice.injEq] at hv; obtain ⟨_, _, rfl⟩ := hv; exact hc)
    obtain ⟨q, hq⟩ : ∃ q, cut (.slice dp data.length dc) x = .slice q (data.length - x) (dc - x) := by cases dp <;> exact ⟨_, rfl⟩
    obtain ⟨y, hy⟩ : ∃ y, y = data.length - x := ⟨_, rfl⟩
    have rd1 : Hid (Rd w (.slice dp x dc) (data.take x)) := upto_rd HDD.out x hx1.out
    have rd2 : Hid (Rd w (.slice q (data.length - x) (dc - x)) (data.drop x)) := by rw [← hq]; exact (cut_rd HDD.out HDN.out x hx1.out).1
    rw [hq] at hs2
    rw [← hy] at hs2 rd2
    simp only [upto] at hs1
    clear hq hy
    have c0 : W2.cell? ⟨c, 0, none⟩ = some (.int .i64 k) := by rw [R2.out.cell]; rfl
    have c1 : W2.cell? ⟨c, 1, none⟩ = some (.int .i64 s) := by rw [R2.out.cell]; rfl
    have c2 : W2.cell? ⟨c, 2, none⟩ = some (.int .i64 bl) := by rw [R2.out.cell]; rfl
    have KA : Hid (∀ w', Tch [] W2 w' → (w'.cell? ⟨c, 0, none⟩ = some (.int .i64 k) ∧ w'.cell? ⟨c, 1, none⟩ = some (.int .i64 s) ∧ w'.cell? ⟨c, 2, none⟩ = some (.int .i64 bl))) := fun w' h => ⟨h.cell c0 (by simp), h.cell c1 (by simp), h.cell c2 (by simp)⟩
    go_region_held3 (fun w' => w'.cell? ⟨c, 0, none⟩ = some (.int .i64 k) ∧ w'.cell? ⟨c, 1, none⟩ = some (.int .i64 s) ∧ w'.cell? ⟨c, 2, none⟩ = some (.int .i64 bl)) (exact KA.out _ (by first | exact Tch.drewN W2 1 | assumption | exact (Tch.drewN W2 1).trans (Tch.alloc _ _) | exact Tch.trans (by assumption) (Tch.alloc _ _))) (first | (go_at_call 26; refine (iMac kt k s bl key [data.take x, [], data.drop x] _ _ _ (HK.out.tch (T2.out.trans ((Tch.drewN W2 1).trans (Tch.alloc _ _))) (by simp)) (HKD.out.tchNil (T2.out.trans ((Tch.drewN W2 1).trans (Tch.alloc _ _)))) (by have := HLEN.out; omega) (prd_three (rd1.out.tchNil (T2.out.trans (Tch.drewN W2 1))) (Rd.nil _) (rd2.out.tchNil (T2.out.trans (Tch.drewN W2 1)))) (by have := HLEN.out; have := hx1.out; simp; omega)).mono ?_; rintro e W4 ⟨got, rfl, h4⟩; have t4 : Tch [] W2 W4 := ((Tch.drewN W2 1).trans (Tch.alloc _ _)).trans h4.out.tchNil))
    all_goals clear hs1 hs2 hm KA c0 c1 c2
    all_goals
      have T4 : Hid (Tch [] w W4) := T2.out.trans t4
      have R4 : Hid (Row W4 c 23 [.int .i64 k, .int .i64 s, .int .i64 bl]) := R2.out.tch t4 (by simp)
      have GD : Hid (Rd W4 got (mac (kindOf kt k s bl) key data)) := by have := h4.out.1.rd; rwa [show [data.take x, [], data.drop x].flatten = data by simp] at this
      clear h4 t4 R2 T2
      have glen : (mac (kindOf kt k s bl) key data).length = szK k s bl := by rw [mac_length, kind_size]
      obtain ⟨gp, gc, rfl⟩ := rd_ex GD.out
      rw [glen] at GD ⊢
      obtain ⟨Z, hZ⟩ : ∃ Z, Z = szK k s bl := ⟨_, rfl⟩
      rw [← hZ] at GD ⊢
      have HZ := Lib.hid hZ
      clear hZ glen
      go_wp2
      refine J4.out _ _ (wp_seq_k (fun K5 k5 => ?_))
      have J5 := Lib.hid k5
      clear k5
      go_wp2_with (first | (refine wpList_load_row rfl 23 _ rfl c rfl 23 #[.int .i64 k, .int .i64 s, .int .i64 bl] (0, 0) _ R4.out Try.underlying23 rfl (by kernel_rfl) ?_) | fail)
      refine (sSize k s bl _).mono ?_
      rintro e W5 ⟨rfl, h5⟩
      rw [← HZ.out]
      have T5 : Hid (Tch [] w W5) := T4.out.trans h5.out
      have R5 : Hid (Row W5 c 23 [.int .i64 k, .int .i64 s, .int .i64 bl]) := R4.out.tch h5.out (by simp)
      have GD5 := Lib.hid (GD.out.tchNil h5.out)
      clear h5 R4 T4 GD
      have c0 : W5.cell? ⟨c, 0, none⟩ = some (.int .i64 k) := by rw [R5.out.cell]; rfl
      have c1 : W5.cell? ⟨c, 1, none⟩ = some (.int .i64 s) := by rw [R5.out.cell]; rfl
      have c2 : W5.cell? ⟨c, 2, none⟩ = some (.int .i64 bl) := by rw [R5.out.cell]; rfl
      go_wp2_with (fail)
      refine (iMac kt k s bl key [data] _ _ _ (HK.out.tch (T5.out.trans (Tch.alloc _ _)) (by simp)) (HKD.out.tchNil (T5.out.trans (Tch.alloc _ _))) (by have := HLEN.out; omega) (prd_one (HDD.out.tchNil T5.out)) (by have := HLEN.out; simp; omega)).mono ?_
      rintro e W6 ⟨got2, rfl, h6⟩
      have T6 : Hid (Tch [] w W6) := T5.out.trans ((Tch.alloc _ _).trans h6.out.tchNil)
      have GD6 := Lib.hid (GD5.out.tchNil ((Tch.alloc _ _).trans h6.out.tchNil))
      have GE6 : Hid (Rd W6 got2 (mac (kindOf kt k s bl) key data)) := by have := h6.out.1.rd; rwa [show [data].flatten = data by simp] at this
      clear h6 R5 T5 GD5 c0 c1 c2
      go_wp2_with (fail)
      refine (lSame _ _ _ _ W6 GD6.out GE6.out).mono ?_
      rintro e W7 ⟨rfl, rfl⟩
      rw [decide_eq_true rfl]
      go_wp2
      refine J5.out _ _ ?_
      go_wp2
      go_ret
      exact ⟨rfl, T6.out⟩
end Go.Proofs.Ytgomodhhomekpaa
