/-
  FnNoughts: its walk.
-/
import Derived.Test.YtgomodhhomekpaaM6
namespace Go.Proofs.Ytgomodhhomekpaa
open Go.RowKit Pu Ar
theorem run_make_u8 (n : Nat) (hm : n ≤ 255) (w : World) :
    (Instr.makeSlice 24 (.int .u8 (n : Int)) (.int .u8 (n : Int))).run Try.prog w = .ok (.slice (some ⟨w.heap.size, 0, none⟩) n n) (w.alloc (.cells (List.replicate n (Value.int .u8 0)).toArray 5)) := by
  obtain ⟨i, hi, hz0, hz1, hz2⟩ := info_parts infoByte
  have h := run_make (P := Try.prog) w 24 5 i _ Try.underlying24 hi hz0 .u8 .u8 n n (by omega) (Int.le_refl _) (by rw [hz2]; omega) (by omega)
  rw [hz1] at h
  simp only [Int.toNat_natCast] at h
  rw [h, made_noughts]
theorem rowAt {w : World} {n : Nat} {t : TypeId} {cs : List Value} {arr : Array Value} (hn : n = w.heap.size) (ha : arr = cs.toArray) : Row (w.alloc (.cells arr t)) n t cs := by
  subst hn; subst ha; exact Row.new w t cs
theorem prd_gen2 {W : World} {n bz m : Nat} {u : Value} {x : By} (hr : Row W n 24 [u, .slice (some ⟨bz, 0, none⟩) m m]) (hz : Row W bz 5 (List.replicate m (.int .u8 0))) (hu : Rd W u x) (hm : m ≤ 255) : PRd W (.slice (some ⟨n, 0, none⟩) 2 2) [x, List.replicate m 0] := by
  have hzr : Rd W (.slice (some ⟨bz, 0, none⟩) m m) (List.replicate m 0) := by
    refine ⟨some ⟨bz, 0, none⟩, m, by simp, by simp, by unfold maxLen; omega, .inr ⟨bz, 0, rfl, fun i y hy => ?_⟩⟩
    rw [hz.cell, Nat.zero_add]
    rw [List.getElem?_replicate] at hy ⊢
    split at hy
    · rename_i h; rw [if_pos h]; cases hy; rfl
    · cases hy
  refine prd_new (vs := [u, .slice (some ⟨bz, 0, none⟩) m m]) rfl hr (Tch.refl _ _) rfl (by simp) ?_
  intro i a b h1 h2
  match i with
  | 0 => simp at h1 h2; subst h1; subst h2; exact hu
  | 1 => simp at h1 h2; subst h1; subst h2; exact hzr
  | i + 2 => simp at h1
theorem prd_gen1 {W : World} {n : Nat} {u : Value} {x : By} (hr : Row W n 24 [u]) (hu : Rd W u x) : PRd W (.slice (some ⟨n, 0, none⟩) 1 1) [x] := by
  refine prd_new (vs := [u]) rfl hr (Tch.refl _ _) rfl (by simp) ?_
  intro i a b h1 h2
  match i with
  | 0 => simp at h1 h2; subst h1; subst h2; exact hu
  | i + 1 => simp at h1
theorem vb_nat (x : UInt8) : ∃ m : Nat, m ≤ 255 ∧ vb x = .int .u8 (m : Int) := ⟨x.toNat, by have : x.toNat < 256 := x.toNat_lt; omega, rfl⟩
set_option maxHeartbeats 2000000 in
set_option maxRecDepth 100000 in
theorem fnNoughts (kt : List UInt32) (k s bl : Int) (key : By) (more : UInt8) (data : By) (keyV : Value) (dataV : Value) (w : World) (hK : KIs w kt) (hkey : Rd w keyV key ∧ Nm keyV) (hdata : Rd w dataV data ∧ Nm dataV) :
    Calls Try.prog 6 #[.agg #[.int .i64 k, .int .i64 s, .int .i64 bl], keyV, vb more, dataV] w fun e w' => e = .returned (.bool true) ∧ Hid (Tch [] w w') := by
  obtain ⟨m, hm, hmv⟩ := vb_nat more
  rw [hmv]
  clear hmv
  have hm255 : (m : Int) ≤ 255 := by omega
  have HM255 := Lib.hid hm
  clear hm
  obtain ⟨hkey, hkeyN⟩ := hkey
  obtain ⟨keyp, keyc, rfl⟩ := rd_ex hkey
  have Rkey := Lib.hid hkey
  have Nkey := Lib.hid hkeyN
  clear hkey hkeyN
  obtain ⟨hdata, hdataN⟩ := hdata
  obtain ⟨datap, datac, rfl⟩ := rd_ex hdata
  have Rdata := Lib.hid hdata
  have Ndata := Lib.hid hdataN
  clear hdata hdataN
  have HK := Lib.hid hK
  clear hK
  go_enter Try.func6, Try.ntmps6
  refine wp_seq_k (fun K0 k0 => ?_)
  have J0 := Lib.hid k0
  clear k0
  go_wp2
  generalize hW1 : World.alloc _ _ = W1
  have R1 : Row W1 w.heap.size 23 [.int .i64 k, .int .i64 s, .int .i64 bl] := by rw [← hW1]; exact Row.new w 23 _
  have T1 : Hid (Tch [] w W1) := by rw [← hW1]; exact Tch.alloc _ _
  have HR1 := Lib.hid R1
  clear hW1 R1
  obtain ⟨c, hc⟩ : ∃ c, c = w.heap.size := ⟨_, rfl⟩
  rw [← hc] at HR1 ⊢
  clear hc
  refine J0.out _ _ (wp_seq_k (fun K1 k1 => ?_))
  have J1 := Lib.hid k1
  clear k1
  by_cases zkey : 2147483647 < (key.length : Int)
  · go_wp2
    go_ret
    exact ⟨rfl, T1.out⟩
  by_cases zdata : 2147483647 < (data.length : Int)
  · go_wp2
    go_ret
    exact ⟨rfl, T1.out⟩
  go_wp2
  refine J1.out _ _ (wp_seq_k (fun K2 k2 => ?_))
  have J2 := Lib.hid k2
  clear k2
  go_wp2_with (fail)
  refine (lLong [key, data] _ _ (prd_two (Rkey.out.tchNil T1.out) (Rdata.out.tchNil T1.out)) (by
    intro p hp
    simp only [List.mem_cons, List.not_mem_nil, or_false] at hp
    rcases hp with rfl | rfl <;> omega)).mono ?_
  rintro e W2 ⟨rfl, hW2⟩
  have R2 : Hid (Row W2 c 23 [.int .i64 k, .int .i64 s, .int .i64 bl]) := by rw [← hW2]; exact HR1.out.alloc _
  have T2 : Hid (Tch [] w W2) := by rw [← hW2]; exact T1.out.trans (Tch.alloc _ _)
  clear hW2 HR1 T1
  obtain ⟨t, ht⟩ : ∃ t, t = decide (1048576 < [key, data].flatten.length) := ⟨_, rfl⟩
  rw [← ht]
  have HTL := Lib.hid ht
  clear ht
  have c0 : W2.cell? ⟨c, 0, none⟩ = some (.int .i64 k) := by rw [R2.out.cell]; rfl
  have c1 : W2.cell? ⟨c, 1, none⟩ = some (.int .i64 s) := by rw [R2.out.cell]; rfl
  have c2 : W2.cell? ⟨c, 2, none⟩ = some (.int .i64 bl) := by rw [R2.out.cell]; rfl
  cases t with
  | true =>
    go_wp2
    go_ret
    exact ⟨rfl, T2.out⟩
  | false =>
    have hlen : [key, data].flatten.length ≤ 1048576 := by
      have := HTL.out
      have := of_decide_eq_false this.symm
      omega
    have HLEN : Hid (key.length + data.length ≤ 1048576) := by simp only [List.flatten_cons, List.flatten_nil, List.append_nil, List.length_append] at hlen; show _ ≤ _; omega
    clear hlen HTL
    have KA : Hid (∀ w', Tch [] W2 w' → (w'.cell? ⟨c, 0, none⟩ = some (.int .i64 k) ∧ w'.cell? ⟨c, 1, none⟩ = some (.int .i64 s) ∧ w'.cell? ⟨c, 2, none⟩ = some (.int .i64 bl))) := fun w' h => ⟨h.cell c0 (by simp), h.cell c1 (by simp), h.cell c2 (by simp)⟩
    go_wp2_with (fail)
    refine (sBlock k s bl W2).mono ?_
    rintro e W3 ⟨rfl, h3⟩
    have T3 : Hid (Tch [] w W3) := T2.out.trans h3.out
    obtain ⟨d0, d1, d2⟩ := KA.out W3 h3.out
    clear c0 c1 c2 KA h3 T2 R2
    obtain ⟨B, hB⟩ : ∃ B, B = blK k s bl := ⟨_, rfl⟩
    rw [← hB]
    have HB := Lib.hid hB
    clear hB
    by_cases hb : (B : Int) < (key.length : Int) + m
    · go_wp2
      go_ret
      exact ⟨rfl, T3.out⟩
    have HBK : Hid (key.length + m ≤ (kindOf kt k s bl).block) := by rw [kind_block, ← HB.out]; show key.length + m ≤ B; omega
    have hb' : ¬ (B : Int) < (key.length : Int) + m := hb
    clear hb
    go_wp2
    clear hb'
    refine J2.out _ _ (wp_seq_k (fun K3 j3 => ?_))
    have J3 := Lib.hid j3
    clear j3
    go_wp2_with (fail)
    refine (iMac kt k s bl key [data] _ _ _ (HK.out.tch (T3.out.trans (Tch.alloc _ _)) (by simp)) (Rkey.out.tchNil (T3.out.trans (Tch.alloc _ _))) (by have := HLEN.out; omega) (prd_one (Rdata.out.tchNil T3.out)) (by have := HLEN.out; simp; omega)).mono ?_
    rintro e W4 ⟨got, rfl, h4⟩
    have t34 : Tch [] W3 W4 := (Tch.alloc W3 _).trans h4.out.tchNil
    have T4 : Hid (Tch [] w W4) := T3.out.trans t34
    have c0 := t34.cell d0 (by simp)
    have c1 := t34.cell d1 (by simp)
    have c2 := t34.cell d2 (by simp)
    have GD : Hid (Rd W4 got (mac (kindOf kt k s bl) key data)) := by have := h4.out.1.rd; rwa [show [data].flatten = data by simp] at this
    clear h4 T3 d0 d1 d2 t34
    have glen : (mac (kindOf kt k s bl) key data).length = szK k s bl := by rw [mac_length, kind_size]
    obtain ⟨gp, gc, rfl⟩ := rd_ex GD.out
    rw [glen] at GD ⊢
    obtain ⟨Z, hZ⟩ : ∃ Z, Z = szK k s bl := ⟨_, rfl⟩
    rw [← hZ] at GD ⊢
    have HZ := Lib.hid hZ
    clear hZ glen
    have HEQ : Hid (decide (mac (kindOf kt k s bl) key data = mac (kindOf kt k s bl) [key, List.replicate m 0].flatten [data].flatten) = true) := by
      refine decide_eq_true ?_
      rw [show [data].flatten = data by simp, show [key, List.replicate m 0].flatten = key ++ List.replicate m 0 by simp, mac_noughts _ key data m HBK.out]
    have KA : Hid (∀ w', Tch [] W4 w' → (w'.cell? ⟨c, 0, none⟩ = some (.int .i64 k) ∧ w'.cell? ⟨c, 1, none⟩ = some (.int .i64 s) ∧ w'.cell? ⟨c, 2, none⟩ = some (.int .i64 bl))) := fun w' h => ⟨h.cell c0 (by simp), h.cell c1 (by simp), h.cell c2 (by simp)⟩
    have HMK : Hid (∀ w, (Instr.makeSlice 24 (.int .u8 (m : Int)) (.int .u8 (m : Int))).run Try.prog w = .ok (.slice (some ⟨w.heap.size, 0, none⟩) m m) (w.alloc (.cells (List.replicate m (Value.int .u8 0)).toArray 5))) := fun w => run_make_u8 m HM255.out w
    go_wp2
    refine J3.out _ _ (wp_seq_k (fun K4 j4 => ?_))
    have J4 := Lib.hid j4
    clear j4
    have hmk := HMK.out
    go_region_held3 (fun w' => w'.cell? ⟨c, 0, none⟩ = some (.int .i64 k) ∧ w'.cell? ⟨c, 1, none⟩ = some (.int .i64 s) ∧ w'.cell? ⟨c, 2, none⟩ = some (.int .i64 bl)) ((refine KA.out _ ?_; (repeat (first | exact t7 | exact t6 | exact t5 | exact Tch.drewN W4 1 | refine Tch.trans ?_ (Tch.alloc _ _))))) (first | (go_at_call 27; refine (sSize k s bl _).mono ?_; rintro e w5 ⟨rfl, h5⟩; have t5 : Tch [] W4 w5 := (Tch.drewN W4 1).trans h5.out; rw [← HZ.out]) | (go_at_call 35; refine (sJoined [key, List.replicate m 0] _ _ ?_ ?_).mono ?_; (first | (refine prd_gen2 (bz := w5.heap.size) (u := .slice keyp key.length keyc) ?_ ?_ ?_ HM255.out; (repeat (first | (refine rowAt ?_ ?_; (first | (focus (simp; done)) | with_reducible rfl); (first | (focus (simp; done)) | with_reducible rfl)) | refine Row.alloc ?_ _)); (repeat (first | (refine rowAt ?_ ?_; (first | (focus (simp; done)) | with_reducible rfl); (first | (focus (simp; done)) | with_reducible rfl)) | refine Row.alloc ?_ _)); refine Rkey.out.tchNil (T4.out.trans ?_); (repeat (first | exact t7 | exact t6 | exact t5 | exact Tch.drewN W4 1 | refine Tch.trans ?_ (Tch.alloc _ _)))) | (refine prd_gen2 (bz := (w5.heap.size + 1)) (u := .slice keyp key.length keyc) ?_ ?_ ?_ HM255.out; (repeat (first | (refine rowAt ?_ ?_; (first | (focus (simp; done)) | with_reducible rfl); (first | (focus (simp; done)) | with_reducible rfl)) | refine Row.alloc ?_ _)); (repeat (first | (refine rowAt ?_ ?_; (first | (focus (simp; done)) | with_reducible rfl); (first | (focus (simp; done)) | with_reducible rfl)) | refine Row.alloc ?_ _)); refine Rkey.out.tchNil (T4.out.trans ?_); (repeat (first | exact t7 | exact t6 | exact t5 | exact Tch.drewN W4 1 | refine Tch.trans ?_ (Tch.alloc _ _))))); (have := HLEN.out; have := HM255.out; simp; omega); rintro e w6 ⟨v6, rfl, h6⟩; have tj := h6.out.tchNil; have t6 : Tch [] W4 w6 := (by refine Tch.trans ?_ tj; (repeat (first | exact t7 | exact t6 | exact t5 | exact Tch.drewN W4 1 | refine Tch.trans ?_ (Tch.alloc _ _))))) | (go_at_call 26; refine (iMac kt k s bl [key, List.replicate m 0].flatten [data] _ _ _ (HK.out.tch (T4.out.trans ?_) (by simp)) ?_ ?_ ?_ ?_).mono ?_; (repeat (first | exact t7 | exact t6 | exact t5 | exact Tch.drewN W4 1 | refine Tch.trans ?_ (Tch.alloc _ _))); (first | exact h6.out.1.rd | exact h6.out.1.rd.tchNil (Tch.alloc _ _)); (have := HLEN.out; have := HM255.out; simp; omega); (first | (refine prd_gen1 (u := .slice datap data.length datac) ?_ (Rdata.out.tchNil (T4.out.trans t6)); refine Row.tch ?_ tj (by simp); (repeat (first | (refine rowAt ?_ ?_; (first | (focus (simp; done)) | with_reducible rfl); (first | (focus (simp; done)) | with_reducible rfl)) | refine Row.alloc ?_ _))) | (refine prd_gen1 (u := .slice datap data.length datac) ?_ ?_; (repeat (first | (refine rowAt ?_ ?_; (first | (focus (simp; done)) | with_reducible rfl); (first | (focus (simp; done)) | with_reducible rfl)) | refine Row.alloc ?_ _)); refine Rdata.out.tchNil (T4.out.trans ?_); (repeat (first | exact t7 | exact t6 | exact t5 | exact Tch.drewN W4 1 | refine Tch.trans ?_ (Tch.alloc _ _))))); (have := HLEN.out; simp; omega); rintro e w7 ⟨v7, rfl, h7⟩; have tk := h7.out.tchNil; have t7 : Tch [] W4 w7 := (by refine Tch.trans ?_ tk; (repeat (first | exact t7 | exact t6 | exact t5 | exact Tch.drewN W4 1 | refine Tch.trans ?_ (Tch.alloc _ _))))) | (go_at_call 28; refine (lSame _ _ _ _ w7 (GD.out.tchNil t7) h7.out.1.rd).mono ?_; rintro e w8 ⟨rfl, rfl⟩; rw [HEQ.out]))
    all_goals (go_wp2; refine J4.out _ _ ?_; go_wp2; go_ret; exact ⟨rfl, T4.out.trans t7⟩)
end Go.Proofs.Ytgomodhhomekpaa
