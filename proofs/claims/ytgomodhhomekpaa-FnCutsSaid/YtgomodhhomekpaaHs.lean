/-
  HMAC.Sum, where the key's blocks are kept as they are.
-/
import Derived.Test.YtgomodhhomekpaaHm
namespace Go.Proofs.Ytgomodhhomekpaa
open Go.RowKit Pu Ar
/-- What Sum leaves. -/
def HSE (hk : Pu.HK) (F : HF) (v : Value) (o i l res : By) (w : World) (e : Ending) (w' : World) : Prop :=
  ∃ v', e = .returned v' ∧ Hid (Own w' v' res ∧ MacAt w' hk F o i l ∧ Tch (F.bo :: F.so :: v.ownBlock.toList) w w' ∧ Off F.all v' ∧ (v'.ownBlock = v.ownBlock ∨ ∃ g, v'.ownBlock = some g ∧ w.heap.size ≤ g))
theorem off_cons {b : Nat} {S : List Nat} {v : Value} (h : Off S v) (hb : b ∈ S) : b ∉ v.ownBlock.toList := off_list h hb
/-- A slice's tail. -/
theorem Own.tail {w : World} {g cap N nx : Nat} {xs ys : By} (h : Own w (.slice (some ⟨g, 0, none⟩) N cap) (xs ++ ys)) (hx : nx = xs.length) : Rd w (.slice (some ⟨g, nx, none⟩) (N - nx) (cap - nx)) ys := by
  have hr := h.rd
  obtain ⟨p, c, hv, h1, h2, h3⟩ := hr
  simp only [Value.slice.injEq] at hv
  obtain ⟨rfl, rfl, rfl⟩ := hv
  have hr : Rd w (.slice (some ⟨g, 0, none⟩) (xs ++ ys).length cap) (xs ++ ys) := ⟨_, _, rfl, h1, h2, h3⟩
  have := hr.drop nx (by rw [hx, List.length_append]; omega) (some ⟨g, nx, none⟩) (by
    intro _ b o e
    simp only [Option.some.injEq, Addr.mk.injEq] at e
    obtain ⟨rfl, rfl, -⟩ := e
    rw [Nat.zero_add])
  rwa [show (xs ++ ys).drop nx = ys by rw [hx]; exact List.drop_left] at this
theorem Own.len {w : World} {p : Option Addr} {N cap : Nat} {l : By} (h : Own w (.slice p N cap) l) : N = l.length := by
  obtain ⟨p', c, hv, _⟩ := h.rd
  simp only [Value.slice.injEq] at hv
  exact hv.2.1
theorem own_ex {w : World} {v : Value} {l : By} (h : Own w v l) : ∃ p cap, v = .slice p l.length cap := by
  obtain ⟨p', c, hv, _⟩ := h.rd
  exact ⟨p', c, hv⟩
set_option maxHeartbeats 1000000 in
set_option maxRecDepth 100000 in
theorem macSum0 (hk : Pu.HK) (F : HF) (o i l xs : By) (v : Value) (w : World) (h : MacAt w hk F o i l) (hmar : F.mar = false)
    (hv : Own w v xs) (hvf : Off F.all v) (hl : l.length ≤ 1099511627776) (hol : o.length ≤ 549755813888) (hx : xs.length + 64 ≤ 140737488355328) :
    Calls Try.prog 46 #[.pointer (some ⟨F.m, 0, none⟩), v] w (HSE hk F v o i l (xs ++ hk.hash (o ++ hk.hash l)) w) := by
  have c3 : w.cell? ⟨F.m, 3, none⟩ = some (.iface (hT hk) (.pointer (some ⟨F.bi, 0, none⟩))) := by rw [h.row.cell]; rfl
  have H1 := Lib.hid (hSum hk F.bi F.si l xs v w h.inner hv (off_sub hvf (by simp +contextual [HF.all])) hl (by omega))
  obtain ⟨vp, vc, hve⟩ := own_ex hv
  have HM := Lib.hid h
  have HMAR := Lib.hid hmar
  have HV := Lib.hid hv
  have HVF := Lib.hid hvf
  have HL := Lib.hid hl
  have HOL := Lib.hid hol
  have HX := Lib.hid hx
  have hs1 := h.ok.size_pos
  have hs2 := h.ok.size_le
  clear h hmar hv hvf hl hol hx
  subst hve
  have a1 := mSum hk
  have a2 := cSum hk
  have b1 := mReset hk
  have b2 := cReset hk
  have d1 := mWrite hk
  have d2 := cWrite hk
  go_enter Try.func46, Try.ntmps46
  refine wp_seq_k (fun K0 k0 => ?_)
  have J0 := Lib.hid k0
  clear k0
  go_wp2
  refine J0.out _ _ (wp_seq_k (fun K1 k1 => ?_))
  have J1 := Lib.hid k1
  clear k1
  go_wp2_with (fail)
  refine J1.out _ _ (wp_seq_k (fun K2 k2 => ?_))
  have J2 := Lib.hid k2
  clear k2
  go_wp2_with (fail)
  refine H1.out.mono ?_
  rintro e W1 ⟨v1, rfl, h1⟩
  obtain ⟨hw1, t1, f1⟩ := h1.out
  obtain ⟨g, cap, rfl, hc1, hc2⟩ := hw1.shape (by intro e; have := congrArg List.length e; rw [List.length_append, hk.hash_length] at this; simp at this; omega)
  have hsz : (xs ++ hk.hash l).length = xs.length + hk.size := by rw [List.length_append, hk.hash_length]
  have F1 : Off F.all (.slice (some ⟨g, 0, none⟩) (xs ++ hk.hash l).length cap) := Grew.offs h1.out HVF.out HM.out.lt
  have M1 : Hid (MacAt W1 hk F o i l) := HM.out.tch t1 (fun b hb => off_list HVF.out hb)
  rw [hsz] at hw1 hc1 F1 ⊢
  obtain ⟨nx, hnx⟩ : ∃ nx, nx = xs.length := ⟨_, rfl⟩
  rw [← hnx] at hw1 hc1 F1 ⊢
  obtain ⟨N, hN⟩ : ∃ N, N = nx + hk.size := ⟨_, rfl⟩
  rw [← hN] at hw1 hc1 F1 ⊢
  have O1 := Lib.hid hw1
  have OF1 := Lib.hid F1
  have T1 := Lib.hid t1
  have FR1 := Lib.hid f1
  have HNX := Lib.hid hnx
  have HNN := Lib.hid hN
  have n1 : (nx : Int) ≤ N := by omega
  have n2 : (N : Int) ≤ cap := by exact_mod_cast hc1
  have n3 : (cap : Int) ≤ 9223372036854775807 := by unfold maxLen at hc2; omega
  have n4 : 0 ≤ (nx : Int) := by omega
  have n5 : ¬ cap = nx := by omega
  have c4 : W1.cell? ⟨F.m, 4, none⟩ = some (.bool false) := by rw [M1.out.row.cell, ← HMAR.out]; rfl
  have c2 : W1.cell? ⟨F.m, 2, none⟩ = some (.iface (hT hk) (.pointer (some ⟨F.bo, 0, none⟩))) := by rw [M1.out.row.cell]; rfl
  clear h1 hw1 F1 t1 f1 hsz hc1 hc2 hnx hN hs1 hs2 c3
  go_wp2
  refine J2.out _ _ (wp_seq_k (fun K3 k3 => ?_))
  have J3 := Lib.hid k3
  clear k3 H1
  go_wp2_with (fail)
  obtain ⟨lo, ho1⟩ := M1.out.outer
  refine (hReset hk F.bo F.so lo W1 ho1).mono ?_
  rintro e W2 ⟨rfl, h2⟩
  have M2 : Hid (MacAt W2 hk F o i l) := M1.out.turnOut h2.out.2 h2.out.1
  have ho2 := Lib.hid h2.out.1
  have T2 := Lib.hid h2.out.2
  have O2 : Hid (Own W2 (.slice (some ⟨g, 0, none⟩) N cap) (xs ++ hk.hash l)) := O1.out.tch h2.out.2 (off_sub OF1.out (by simp +contextual [HF.all]))
  clear h2 c4 c2 ho1
  have c2 : W2.cell? ⟨F.m, 2, none⟩ = some (.iface (hT hk) (.pointer (some ⟨F.bo, 0, none⟩))) := by rw [M2.out.row.cell]; rfl
  have c0 : W2.cell? ⟨F.m, 0, none⟩ = some F.ov := by rw [M2.out.row.cell]; rfl
  go_wp2
  refine wp_region_quiet_tail 10 (by kernel_rfl) (by kernel_rfl) ?_
  simp only [List.take_succ_cons, List.take_zero, List.drop_succ_cons, List.drop_zero]
  repeat (go_big_quiet_step (fail))
  refine wpQuiet_nil ?_
  go_wp2_with (fail)
  have M2d : Hid (MacAt W2.drew hk F o i l) := M2.out.tch (Tch.drewN (S := []) W2 1) (by simp)
  have ho2d : HIs W2.drew hk F.bo F.so [] := ho2.out.tch (Tch.drewN (S := []) W2 1) (by simp) (by simp) (by simp)
  refine (hWrite hk F.bo F.so [] o F.ov W2.drew ho2d M2d.out.ord M2d.out.onm (off_sub M2d.out.offo (by simp +contextual)) (by have := HOL.out; simp; omega)).mono ?_
  rintro e W3 ⟨rfl, h3⟩
  have M3 : Hid (MacAt W3 hk F o i l) := M2d.out.turnOut h3.out.2 h3.out.1
  have ho3 : Hid (HIs W3 hk F.bo F.so o) := h3.out.1
  have T3 : Hid (Tch [F.bo, F.so] W1 W3) := T2.out.trans ((Tch.drewN W2 1).trans h3.out.2)
  have O3 : Hid (Own W3 (.slice (some ⟨g, 0, none⟩) N cap) (xs ++ hk.hash l)) := O1.out.tch T3.out (off_sub OF1.out (by simp +contextual [HF.all]))
  clear h3 c2 c0 ho2d M2d M2 ho2 T2 O2
  have c2 : W3.cell? ⟨F.m, 2, none⟩ = some (.iface (hT hk) (.pointer (some ⟨F.bo, 0, none⟩))) := by rw [M3.out.row.cell]; rfl
  go_wp2
  refine J3.out _ _ (wp_seq_k (fun K4 k4 => ?_))
  have J4 := Lib.hid k4
  clear k4
  refine wp_region_quiet_tail 9 (by kernel_rfl) (by kernel_rfl) ?_
  simp only [List.take_succ_cons, List.take_zero, List.drop_succ_cons, List.drop_zero]
  repeat (go_big_quiet_step (fail))
  refine wpQuiet_nil ?_
  go_wp2_with (fail)
  have M3d : Hid (MacAt W3.drew hk F o i l) := M3.out.tch (Tch.drewN (S := []) W3 1) (by simp)
  have ho3d : HIs W3.drew hk F.bo F.so o := ho3.out.tch (Tch.drewN (S := []) W3 1) (by simp) (by simp) (by simp)
  have O3d : Own W3.drew (.slice (some ⟨g, 0, none⟩) N cap) (xs ++ hk.hash l) := O3.out.tch (Tch.drewN (S := []) W3 1) (by intro i _; simp)
  refine (hWrite hk F.bo F.so o (hk.hash l) _ W3.drew ho3d (O3d.tail HNX.out) (.inr ⟨_, _, _, _, rfl⟩) (by intro i hi; exact OF1.out i hi |> fun h hm => h (by simp only [HF.all, List.mem_cons, List.not_mem_nil, or_false] at hm ⊢; omega)) (by have := HOL.out; rw [List.length_append, hk.hash_length]; have := M3d.out.ok.size_le; omega)).mono ?_
  rintro e W4 ⟨rfl, h4⟩
  have M4 : Hid (MacAt W4 hk F o i l) := M3d.out.turnOut h4.out.2 h4.out.1
  have ho4 : Hid (HIs W4 hk F.bo F.so (o ++ hk.hash l)) := h4.out.1
  have T4 : Hid (Tch [F.bo, F.so] W1 W4) := T3.out.trans ((Tch.drewN W3 1).trans h4.out.2)
  have O4 : Hid (Own W4 (.slice (some ⟨g, 0, none⟩) N cap) (xs ++ hk.hash l)) := O1.out.tch T4.out (off_sub OF1.out (by simp +contextual [HF.all]))
  clear h4 c2 ho3d M3d M3 ho3 T3 O3 O3d
  have c2 : W4.cell? ⟨F.m, 2, none⟩ = some (.iface (hT hk) (.pointer (some ⟨F.bo, 0, none⟩))) := by rw [M4.out.row.cell]; rfl
  have n6 : (nx : Int) ≤ cap := by omega
  go_wp2
  refine J4.out _ _ (wp_seq_k (fun K5 k5 => ?_))
  have J5 := Lib.hid k5
  clear k5
  refine wp_region_quiet_tail 9 (by kernel_rfl) (by kernel_rfl) ?_
  simp only [List.take_succ_cons, List.take_zero, List.drop_succ_cons, List.drop_zero]
  repeat (go_big_quiet_step (fail))
  refine wpQuiet_nil ?_
  go_wp2_with (fail)
  have M4d : Hid (MacAt W4.drew hk F o i l) := M4.out.tch (Tch.drewN (S := []) W4 1) (by simp)
  have ho4d : HIs W4.drew hk F.bo F.so (o ++ hk.hash l) := ho4.out.tch (Tch.drewN (S := []) W4 1) (by simp) (by simp) (by simp)
  have O4d : Own W4.drew (.slice (some ⟨g, 0, none⟩) N cap) (xs ++ hk.hash l) := O4.out.tch (Tch.drewN (S := []) W4 1) (by intro i _; simp)
  have O4e : Own W4.drew (.slice (some ⟨g, 0, none⟩) nx cap) xs := by
    have := O4d.len
    subst this
    rw [HNX.out]; exact O4d.front
  refine (hSum hk F.bo F.so (o ++ hk.hash l) xs _ W4.drew ho4d O4e (by intro i hi hm; exact OF1.out i hi (by simp only [HF.all, List.mem_cons, List.not_mem_nil, or_false] at hm ⊢; omega)) (by have := HOL.out; rw [List.length_append, hk.hash_length]; have := M4d.out.ok.size_le; omega) (by have := HX.out; omega)).mono ?_
  rintro e W5 ⟨v5, rfl, h5⟩
  go_wp2
  refine J5.out _ _ ?_
  go_wp2
  go_ret
  obtain ⟨p1, p2, p3⟩ := h5.out
  have OFg : Off F.all (.slice (some ⟨g, 0, none⟩) nx cap) := fun i hi => OF1.out i hi
  refine ⟨v5, rfl, p1, M4d.out.tch p2 (fun b hb => off_list OFg hb), ?_, Grew.offs h5.out OFg M4d.out.lt, ?_⟩
  · have t : Tch (F.bo :: F.so :: (Value.slice vp xs.length vc).ownBlock.toList) w W4.drew := (T1.out.mono (by simp +contextual)).trans ((T4.out.trans (Tch.drewN W4 1)).mono (by simp +contextual))
    refine t.new p2 ?_
    intro b hb
    have hb' : b = g := by simpa [Value.ownBlock] using hb
    subst hb'
    rcases FR1.out with h | ⟨g2, h, hg⟩
    · left
      rw [← h]; simp [Value.ownBlock]
    · right
      have : b = g2 := by simpa [Value.ownBlock] using h
      rw [this]; exact hg
  · have ws : w.heap.size ≤ W4.drew.heap.size := Nat.le_trans T1.out.size T4.out.size
    rcases p3 with h | ⟨g2, h, hg⟩
    · rcases FR1.out with h' | ⟨g2, h', hg⟩
      · exact .inl (h.trans h')
      · exact .inr ⟨g2, h.trans h', hg⟩
    · exact .inr ⟨g2, h, Nat.le_trans ws hg⟩
end Go.Proofs.Ytgomodhhomekpaa
