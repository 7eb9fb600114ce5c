/-
  FnLongKey's walk.
-/
import Derived.Test.YtgomodhhomekpaaDoorM4
import Derived.Test.YtgomodhhomekpaaDoorSs
namespace Go.Proofs.YtgomodhhomekpaaDoor
open Go.RowKit Pu Ar
theorem mac_longKey {hk : Pu.HK} (hok : hk.ok) (key data : By) (h : hk.block < key.length) : mac hk (hk.hash key) data = mac hk key data := by
  have e1 : Pu.keyOf hk key = hk.hash key := by unfold Pu.keyOf; rw [if_pos h]
  have e2 : Pu.keyOf hk (hk.hash key) = hk.hash key := by
    unfold Pu.keyOf
    rw [if_neg]
    rw [hk.hash_length]; have := hok.size_le_block; omega
  unfold mac opad ipad padKey
  rw [e1, e2]
theorem rd_ex {w : World} {v : Value} {l : By} (h : Rd w v l) : ∃ p cap, v = .slice p l.length cap := by
  obtain ⟨p, cap, hv, _⟩ := h; exact ⟨p, cap, hv⟩
/-- A slice of slices that has just been made. -/
theorem prd_new {w w1 : World} {b : Nat} {vs : List Value} {ps : List By} {n : Nat} (hn : n = ps.length) (hr : Row w1 b 24 vs) (k : Tch [] w w1) (hl : vs.length = ps.length) (hm : ps.length ≤ 1000) (h : ∀ (i : Nat) (u : Value) (x : By), vs[i]? = some u → ps[i]? = some x → Rd w u x) :
    PRd w1 (.slice (some ⟨b, 0, none⟩) n n) ps := by
  subst hn
  refine ⟨_, _, rfl, Nat.le_refl _, by unfold maxLen; omega, .inr ⟨b, 0, rfl, fun i x hx => ?_⟩⟩
  have hi : i < ps.length := by
    rcases Nat.lt_or_ge i ps.length with h | h
    · exact h
    · rw [List.getElem?_eq_none h] at hx; cases hx
  have e := List.getElem?_eq_getElem (l := vs) (show i < vs.length by omega)
  refine ⟨_, by rw [hr.cell, Nat.zero_add]; exact e, (h i _ x e hx).tchNil k⟩
theorem prd_two {w : World} {u v : Value} {x y : By} (hu : Rd w u x) (hv : Rd w v y) : PRd (w.alloc (.cells #[u, v] 24)) (.slice (some ⟨w.heap.size, 0, none⟩) 2 2) [x, y] := by
  refine prd_new (vs := [u, v]) rfl (Row.new w 24 [u, v]) (Tch.alloc _ _) rfl (by simp) ?_
  intro i a b h1 h2
  match i with
  | 0 => simp at h1 h2; subst h1; subst h2; exact hu
  | 1 => simp at h1 h2; subst h1; subst h2; exact hv
  | i + 2 => simp at h1
theorem prd_one {w : World} {u : Value} {x : By} (hu : Rd w u x) : PRd (w.alloc (.cells #[u] 24)) (.slice (some ⟨w.heap.size, 0, none⟩) 1 1) [x] := by
  refine prd_new (vs := [u]) rfl (Row.new w 24 [u]) (Tch.alloc _ _) rfl (by simp) ?_
  intro i a b h1 h2
  match i with
  | 0 => simp at h1 h2; subst h1; subst h2; exact hu
  | i + 1 => simp at h1
set_option maxHeartbeats 1000000 in
set_option maxRecDepth 100000 in
theorem fnLongKey (kt : List UInt32) (k s bl : Int) (key data : By) (kv dv : Value) (w : World) (hK : KIs w kt) (hk : Rd w kv key) (hd : Rd w dv data) :
    Calls Tryd.prog 4 #[.agg #[.int .i64 k, .int .i64 s, .int .i64 bl], kv, dv] w fun e w' => e = .returned (.bool true) ∧ Hid (Tch [] w w') := by
  obtain ⟨kp, kc, rfl⟩ := rd_ex hk
  obtain ⟨dp, dc, rfl⟩ := rd_ex hd
  have HKD := Lib.hid hk
  have HDD := Lib.hid hd
  have HK := Lib.hid hK
  clear hk hd hK
  go_enter Tryd.func4, Tryd.ntmps4
  refine wp_seq_k (fun K0 k0 => ?_)
  have J0 := Lib.hid k0
  clear k0
  go_wp2
  generalize hW1 : World.alloc _ _ = W1
  have R1 : Row W1 w.heap.size 23 [.int .i64 k, .int .i64 s, .int .i64 bl] := by rw [← hW1]; exact Row.new w 23 _
  have T1 : Hid (Tch [] w W1) := by rw [← hW1]; exact Tch.alloc _ _
  have HR1 := Lib.hid R1
  clear hW1 R1
  obtain ⟨c, hc⟩ : ∃ c, c = w.heap.size := ⟨_, rfl⟩
  rw [← hc] at HR1 ⊢
  clear hc
  refine J0.out _ _ (wp_seq_k (fun K1 k1 => ?_))
  have J1 := Lib.hid k1
  clear k1
  by_cases hk1 : 2147483647 < (key.length : Int)
  · go_wp2
    go_ret
    exact ⟨rfl, T1.out⟩
  by_cases hd1 : 2147483647 < (data.length : Int)
  · go_wp2
    go_ret
    exact ⟨rfl, T1.out⟩
  go_wp2
  refine J1.out _ _ (wp_seq_k (fun K2 k2 => ?_))
  have J2 := Lib.hid k2
  clear k2
  go_wp2_with (fail)
  refine (lLong [key, data] _ _ (prd_two (HKD.out.tchNil T1.out) (HDD.out.tchNil T1.out)) (by
    intro p hp
    simp only [List.mem_cons, List.not_mem_nil, or_false] at hp
    rcases hp with rfl | rfl <;> omega)).mono ?_
  rintro e W2 ⟨rfl, hW2⟩
  have R2 : Hid (Row W2 c 23 [.int .i64 k, .int .i64 s, .int .i64 bl]) := by rw [← hW2]; exact HR1.out.alloc _
  have T2 : Hid (Tch [] w W2) := by rw [← hW2]; exact T1.out.trans (Tch.alloc _ _)
  clear hW2 HR1 T1
  obtain ⟨t, ht⟩ : ∃ t, t = decide (1048576 < [key, data].flatten.length) := ⟨_, rfl⟩
  rw [← ht]
  have HTL := Lib.hid ht
  clear ht
  have c0 : W2.cell? ⟨c, 0, none⟩ = some (.int .i64 k) := by rw [R2.out.cell]; rfl
  have c1 : W2.cell? ⟨c, 1, none⟩ = some (.int .i64 s) := by rw [R2.out.cell]; rfl
  have c2 : W2.cell? ⟨c, 2, none⟩ = some (.int .i64 bl) := by rw [R2.out.cell]; rfl
  cases t with
  | true =>
    go_wp2
    go_ret
    exact ⟨rfl, T2.out⟩
  | false =>
    have hlen : [key, data].flatten.length ≤ 1048576 := by
      have := HTL.out
      have := of_decide_eq_false this.symm
      omega
    have HLEN : Hid (key.length + data.length ≤ 1048576) := by simpa [Hid] using hlen
    clear hlen HTL
    go_wp2_with (first | (refine wpList_load_row rfl 23 _ rfl c rfl 23 #[.int .i64 k, .int .i64 s, .int .i64 bl] (0, 0) _ R2.out Tryd.underlying23 rfl (by kernel_rfl) ?_) | fail)
    refine (sBlock k s bl W2).mono ?_
    rintro e W3 ⟨rfl, h3⟩
    have R3 : Hid (Row W3 c 23 [.int .i64 k, .int .i64 s, .int .i64 bl]) := R2.out.tch h3.out (by simp)
    have T3 : Hid (Tch [] w W3) := T2.out.trans h3.out
    clear h3 R2 T2 c0 c1 c2
    obtain ⟨B, hB⟩ : ∃ B, B = blK k s bl := ⟨_, rfl⟩
    rw [← hB]
    have HB := Lib.hid hB
    clear hB
    by_cases hkb : key.length ≤ B
    · have hkb' : (key.length : Int) ≤ B := by exact_mod_cast hkb
      go_wp2
      go_ret
      exact ⟨rfl, T3.out⟩
    have hkb' : ¬ (key.length : Int) ≤ B := by omega
    have HKB : Hid ((kindOf kt k s bl).block < key.length) := by rw [kind_block, ← HB.out]; show B < key.length; omega
    clear hkb
    go_wp2
    clear hkb'
    refine J2.out _ _ (wp_seq_k (fun K3 k3 => ?_))
    have J3 := Lib.hid k3
    clear k3
    go_wp2_with (first | (refine wpList_load_row rfl 23 _ rfl c rfl 23 #[.int .i64 k, .int .i64 s, .int .i64 bl] (0, 0) _ R3.out Tryd.underlying23 rfl (by kernel_rfl) ?_) | fail)
    refine (iMac kt k s bl key [data] _ _ _ (HK.out.tch (T3.out.trans (Tch.alloc _ _)) (by simp)) (HKD.out.tchNil (T3.out.trans (Tch.alloc _ _))) (by have := HLEN.out; omega) (prd_one (HDD.out.tchNil T3.out)) (by have := HLEN.out; simp; omega)).mono ?_
    rintro e W4 ⟨got, rfl, h4⟩
    have T34 : Tch [] W3 W4 := (Tch.alloc W3 _).trans h4.out.tchNil
    have R4 : Hid (Row W4 c 23 [.int .i64 k, .int .i64 s, .int .i64 bl]) := R3.out.tch T34 (by simp)
    have T4 : Hid (Tch [] w W4) := T3.out.trans T34
    have GD : Hid (Rd W4 got (mac (kindOf kt k s bl) key data)) := by have := h4.out.1.rd; rwa [show [data].flatten = data by simp] at this
    clear T34 h4 R3 T3
    have glen : (mac (kindOf kt k s bl) key data).length = szK k s bl := by rw [mac_length, kind_size]
    obtain ⟨gp, gc, rfl⟩ := rd_ex GD.out
    rw [glen] at GD ⊢
    obtain ⟨Z, hZ⟩ : ∃ Z, Z = szK k s bl := ⟨_, rfl⟩
    rw [← hZ] at GD ⊢
    have HZ := Lib.hid hZ
    clear hZ glen
    have c0 : W4.cell? ⟨c, 0, none⟩ = some (.int .i64 k) := by rw [R4.out.cell]; rfl
    have c1 : W4.cell? ⟨c, 1, none⟩ = some (.int .i64 s) := by rw [R4.out.cell]; rfl
    have c2 : W4.cell? ⟨c, 2, none⟩ = some (.int .i64 bl) := by rw [R4.out.cell]; rfl
    go_wp2
    refine J3.out _ _ (wp_seq_k (fun K4 k4 => ?_))
    have J4 := Lib.hid k4
    clear k4
    have HEQ : Hid (decide (mac (kindOf kt k s bl) key data = mac (kindOf kt k s bl) ((kindOf kt k s bl).hash key) [data].flatten) = true) := by
      refine decide_eq_true ?_
      rw [show [data].flatten = data by simp, mac_longKey (kindOf_ok kt k s bl) key data HKB.out]
    have KA : Hid (∀ w', Tch [] W4 w' → (w'.cell? ⟨c, 0, none⟩ = some (.int .i64 k) ∧ w'.cell? ⟨c, 1, none⟩ = some (.int .i64 s) ∧ w'.cell? ⟨c, 2, none⟩ = some (.int .i64 bl))) := fun w' h => ⟨h.cell c0 (by simp), h.cell c1 (by simp), h.cell c2 (by simp)⟩
    go_region_held3 (fun w' => w'.cell? ⟨c, 0, none⟩ = some (.int .i64 k) ∧ w'.cell? ⟨c, 1, none⟩ = some (.int .i64 s) ∧ w'.cell? ⟨c, 2, none⟩ = some (.int .i64 bl)) (exact KA.out _ (by first | exact Tch.drewN W4 1 | assumption | exact (Tch.drewN W4 1).trans (Tch.alloc _ _) | exact Tch.trans (by assumption) (Tch.alloc _ _))) (first | (go_at_call 11; refine (sSize k s bl _).mono ?_; rintro e w5 ⟨rfl, h5⟩; have t5 : Tch [] W4 w5 := Tch.trans (by first | exact Tch.drewN W4 1 | assumption | exact (Tch.drewN W4 1).trans (Tch.alloc _ _) | exact Tch.trans (by assumption) (Tch.alloc _ _)) h5.out; rw [← HZ.out]) | (go_at_call 7; refine (iSum kt k s bl _ key _ (HK.out.tch (T4.out.trans (by first | exact Tch.drewN W4 1 | assumption | exact (Tch.drewN W4 1).trans (Tch.alloc _ _) | exact Tch.trans (by assumption) (Tch.alloc _ _))) (by simp)) (HKD.out.tchNil (T4.out.trans (by first | exact Tch.drewN W4 1 | assumption | exact (Tch.drewN W4 1).trans (Tch.alloc _ _) | exact Tch.trans (by assumption) (Tch.alloc _ _)))) (by have := HLEN.out; omega)).mono ?_; rintro e w6 ⟨sv, rfl, h6⟩; have t6 : Tch [] W4 w6 := Tch.trans (by first | exact Tch.drewN W4 1 | assumption | exact (Tch.drewN W4 1).trans (Tch.alloc _ _) | exact Tch.trans (by assumption) (Tch.alloc _ _)) h6.out.tchNil) | (go_at_call 10; refine (iMac kt k s bl ((kindOf kt k s bl).hash key) [data] _ _ _ (HK.out.tch (T4.out.trans (by first | exact Tch.drewN W4 1 | assumption | exact (Tch.drewN W4 1).trans (Tch.alloc _ _) | exact Tch.trans (by assumption) (Tch.alloc _ _))) (by simp)) (by first | exact h6.out.1.rd | exact h6.out.1.rd.tchNil (Tch.alloc _ _)) (by rw [Pu.HK.hash_length]; have := (kindOf_ok kt k s bl).size_le; omega) (by first | exact prd_one (HDD.out.tchNil (T4.out.trans (by first | exact Tch.drewN W4 1 | assumption | exact (Tch.drewN W4 1).trans (Tch.alloc _ _) | exact Tch.trans (by assumption) (Tch.alloc _ _)))) | exact (prd_one (HDD.out.tchNil (T4.out.trans (by first | exact Tch.drewN W4 1 | assumption | exact (Tch.drewN W4 1).trans (Tch.alloc _ _) | exact Tch.trans (by assumption) (Tch.alloc _ _))))).tchNil h6.out.tchNil) (by have := HLEN.out; simp; omega)).mono ?_; rintro e w7 ⟨mv, rfl, h7⟩; have t7 : Tch [] W4 w7 := Tch.trans (by first | exact Tch.drewN W4 1 | assumption | exact (Tch.drewN W4 1).trans (Tch.alloc _ _) | exact Tch.trans (by assumption) (Tch.alloc _ _)) h7.out.tchNil) | (go_at_call 6; refine (lSame _ _ (mac (kindOf kt k s bl) key data) (mac (kindOf kt k s bl) ((kindOf kt k s bl).hash key) [data].flatten) _ (GD.out.tchNil t7) h7.out.1.rd).mono ?_; rintro e w8 ⟨rfl, hw8⟩; subst hw8; rw [HEQ.out]))
    all_goals (go_wp2; refine J4.out _ _ ?_; go_wp2; go_ret; exact ⟨rfl, T4.out.trans t7⟩)
end Go.Proofs.YtgomodhhomekpaaDoor
