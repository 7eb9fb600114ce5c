/-
  A part of what this claim leans on: Hw, Hm, Hs, Hl, Hn, Hp, Hq, Im, Ia, Lg, Sm, Rw, Hd, Ss, Pl, Sl, Ap, Ma, Mb, Mc, Md, Fc. No conditions of its own.
-/
import Derived.Handy
import Derived.Deep.RegionHeld3
import Derived.Laws.BytesString
import Derived.Test.YtgomodhhomekpaaRows
import Derived.WalkKit
import Derived.ProofKit
import Derived.OpenShut
import Derived.ShutString
import Derived.ChangeOld
import Derived.Below
import Derived.Lib.SmallJoins
import Derived.LaidMore
import Derived.OpenVars
import Derived.HandedShaped
import Derived.Test.YtgomodhhomekpaaM1
/-
  HMAC.Write.
-/
namespace Go.Proofs.Ytgomodhhomekpaa
open Go.RowKit Pu Ar
/-- An HMAC, its fields, in block m. -/
def hmCells (hk : Pu.HK) (ov iv : Value) (bo bi : Nat) (mar kdf : Bool) (n : Int) : List Value :=
  [ov, iv, .iface (hT hk) (.pointer (some ⟨bo, 0, none⟩)), .iface (hT hk) (.pointer (some ⟨bi, 0, none⟩)), .bool mar, .bool kdf, .int .i64 n]
set_option maxRecDepth 100000 in
theorem hmWrite (hk : Pu.HK) (m bi si : Nat) (ov iv : Value) (bo : Nat) (mar kdf : Bool) (n : Int) (l p : By) (v : Value) (w : World) (hm : Row w m 95 (hmCells hk ov iv bo bi mar kdf n))
    (hi : HIs w hk bi si l) (hv : Rd w v p) (hn : Nm v) (hoff : Off [bi, si] v) (hlen : (l ++ p).length ≤ 1099511627776) :
    Calls Try.prog 44 #[.pointer (some ⟨m, 0, none⟩), v] w fun e w' => e = .returned (.tuple #[.int .i64 p.length, .nilIface]) ∧ Hid (HIs w' hk bi si (l ++ p) ∧ Tch [bi, si] w w') := by
  have c3 : w.cell? ⟨m, 3, none⟩ = some (.iface (hT hk) (.pointer (some ⟨bi, 0, none⟩))) := by rw [hm.cell]; rfl
  have HC := Lib.hid (hWrite hk bi si l p v w hi hv hn hoff hlen)
  clear hm hi hv hn hoff hlen
  have e1 := mWrite hk
  have e2 := cWrite hk
  go_enter Try.func44, Try.ntmps44
  go_wp2_with (fail)
  refine HC.out.mono ?_
  rintro e w' ⟨rfl, h⟩
  go_wp2
  go_ret2
  exact ⟨rfl, h.out⟩
theorem Own.shape {w : World} {v : Value} {l : By} (h : Own w v l) (h0 : l ≠ []) : ∃ g cap, v = .slice (some ⟨g, 0, none⟩) l.length cap ∧ l.length ≤ cap ∧ cap ≤ maxLen := by
  rcases h.2 with ⟨_, h1⟩ | ⟨g, cap, cur, h1, _, _, h2, h3, _⟩
  · exact absurd (List.length_eq_zero_iff.1 h1) h0
  · exact ⟨g, cap, h1, h2, h3⟩
/-- The front of a row of the call's own is one, too. -/
theorem Own.front {w : World} {g cap : Nat} {xs ys : By} (h : Own w (.slice (some ⟨g, 0, none⟩) (xs ++ ys).length cap) (xs ++ ys)) : Own w (.slice (some ⟨g, 0, none⟩) xs.length cap) xs := by
  refine ⟨by simp, ?_⟩
  rcases h.2 with ⟨h1, _⟩ | ⟨g', cap', cur, h1, hb, hg, h2, h3, h4, h5⟩
  · cases h1
  · simp only [Value.slice.injEq, Option.some.injEq, Addr.mk.injEq] at h1
    obtain ⟨⟨rfl, -, -⟩, -, rfl⟩ := h1
    refine .inr ⟨g, cap, cur, rfl, hb, hg, by rw [List.length_append] at h2; omega, h3, h4, ?_⟩
    have e : xs.length * 1 = min (xs.length * 1) ((xs ++ ys).length * 1) := by rw [List.length_append]; omega
    rw [e, ← List.take_take, h5, List.map_append, Nat.mul_one]
    exact List.take_left' (by simp)
end Go.Proofs.Ytgomodhhomekpaa

/-
  An HMAC in memory: its fields, its two hashes, its two blocks of the key.
-/
namespace Go.Proofs.Ytgomodhhomekpaa
open Go.RowKit Pu Ar
structure HF where
  m : Nat
  bo : Nat
  so : Nat
  bi : Nat
  si : Nat
  ov : Value
  iv : Value
  mar : Bool
  kdf : Bool
  n : Int
/-- The blocks that an HMAC stands on, the table with them. -/
def HF.all (F : HF) : List Nat := 0 :: F.m :: F.bo :: F.so :: F.bi :: F.si :: (F.ov.ownBlock.toList ++ F.iv.ownBlock.toList)
structure MacAt (w : World) (hk : Pu.HK) (F : HF) (o i l : By) : Prop where
  ok : hk.ok
  row : Row w F.m 95 (hmCells hk F.ov F.iv F.bo F.bi F.mar F.kdf F.n)
  outer : ∃ lo, HIs w hk F.bo F.so lo
  inner : HIs w hk F.bi F.si l
  ord : Rd w F.ov o
  ird : Rd w F.iv i
  onm : Nm F.ov
  inm : Nm F.iv
  olt : ∀ b, F.ov.ownBlock = some b → b < w.heap.size
  ilt : ∀ b, F.iv.ownBlock = some b → b < w.heap.size
  m1 : F.m ≠ F.bo ∧ F.m ≠ F.so ∧ F.m ≠ F.bi ∧ F.m ≠ F.si
  k1 : 0 ≠ F.m ∧ 0 ≠ F.bo ∧ 0 ≠ F.so ∧ 0 ≠ F.bi ∧ 0 ≠ F.si
  oi : F.bi ≠ F.bo ∧ F.bi ≠ F.so ∧ F.si ≠ F.bo ∧ F.si ≠ F.so
  offo : Off [F.m, F.bo, F.so, F.bi, F.si] F.ov
  offi : Off [F.m, F.bo, F.so, F.bi, F.si] F.iv
theorem MacAt.lt {w : World} {hk : Pu.HK} {F : HF} {o i l : By} (h : MacAt w hk F o i l) : ∀ b ∈ F.all, b < w.heap.size := by
  intro b hb
  have hm := h.row.lt
  obtain ⟨_, ho⟩ := h.outer
  have h1 := ho.lt
  have h2 := h.inner.lt
  simp only [HF.all, List.mem_cons, List.mem_append, Option.mem_toList] at hb
  rcases hb with rfl | rfl | rfl | rfl | rfl | rfl | hb | hb
  · omega
  · exact hm
  · exact h1.1
  · exact h1.2
  · exact h2.1
  · exact h2.2
  · exact h.olt b hb
  · exact h.ilt b hb
theorem off_sub {S T : List Nat} {v : Value} (h : Off S v) (hs : ∀ b ∈ T, b ∈ S) : Off T v := fun b hb hm => h b hb (hs b hm)
theorem MacAt.tch {S : List Nat} {w w' : World} {hk : Pu.HK} {F : HF} {o i l : By} (h : MacAt w hk F o i l) (k : Tch S w w') (hS : ∀ b ∈ F.all, b ∉ S) : MacAt w' hk F o i l := by
  obtain ⟨lo, ho⟩ := h.outer
  have e : ∀ b, b ∈ F.all → b ∉ S := hS
  simp only [HF.all, List.mem_cons, List.mem_append, Option.mem_toList] at e
  exact ⟨h.ok, h.row.tch k (e _ (by simp)), ⟨lo, ho.tch k (e _ (by simp)) (e _ (by simp)) (e _ (by simp))⟩, h.inner.tch k (e _ (by simp)) (e _ (by simp)) (e _ (by simp)),
    h.ord.tch k (fun b hb => e b (by simp [hb])), h.ird.tch k (fun b hb => e b (by simp [hb])), h.onm, h.inm, fun b hb => Nat.lt_of_lt_of_le (h.olt b hb) k.size, fun b hb => Nat.lt_of_lt_of_le (h.ilt b hb) k.size,
    h.m1, h.k1, h.oi, h.offo, h.offi⟩
/-- What is new is none of the HMAC's blocks. -/
theorem MacAt.tchNew {S : List Nat} {w w' : World} {hk : Pu.HK} {F : HF} {o i l : By} (h : MacAt w hk F o i l) (k : Tch S w w') (hS : ∀ b ∈ S, w.heap.size ≤ b) : MacAt w' hk F o i l :=
  h.tch k (fun b hb hm => by have := h.lt b hb; have := hS b hm; omega)
/-- The inner hash has turned, and nothing else of it. -/
theorem MacAt.turnIn {w w' : World} {hk : Pu.HK} {F : HF} {o i l l' : By} (h : MacAt w hk F o i l) (k : Tch [F.bi, F.si] w w') (hi : HIs w' hk F.bi F.si l') : MacAt w' hk F o i l' := by
  obtain ⟨lo, ho⟩ := h.outer
  obtain ⟨a1, a2, a3, a4⟩ := h.m1
  obtain ⟨b1, b2, b3, b4, b5⟩ := h.k1
  obtain ⟨c1, c2, c3, c4⟩ := h.oi
  exact ⟨h.ok, h.row.tch k (by simp [a3, a4]), ⟨lo, ho.tch k (by simp only [List.mem_cons, List.not_mem_nil, or_false, not_or]; exact ⟨b4, b5⟩) (by simp [Ne.symm c1, Ne.symm c3]) (by simp [Ne.symm c2, Ne.symm c4])⟩, hi,
    h.ord.tch k (off_sub h.offo (by simp +contextual)), h.ird.tch k (off_sub h.offi (by simp +contextual)), h.onm, h.inm, fun b hb => Nat.lt_of_lt_of_le (h.olt b hb) k.size, fun b hb => Nat.lt_of_lt_of_le (h.ilt b hb) k.size,
    h.m1, h.k1, h.oi, h.offo, h.offi⟩
theorem MacAt.turnOut {w w' : World} {hk : Pu.HK} {F : HF} {o i l lo : By} (h : MacAt w hk F o i l) (k : Tch [F.bo, F.so] w w') (hi : HIs w' hk F.bo F.so lo) : MacAt w' hk F o i l := by
  obtain ⟨a1, a2, a3, a4⟩ := h.m1
  obtain ⟨b1, b2, b3, b4, b5⟩ := h.k1
  obtain ⟨c1, c2, c3, c4⟩ := h.oi
  exact ⟨h.ok, h.row.tch k (by simp [a1, a2]), ⟨lo, hi⟩, h.inner.tch k (by simp only [List.mem_cons, List.not_mem_nil, or_false, not_or]; exact ⟨b2, b3⟩) (by simp [c1, c2]) (by simp [c3, c4]),
    h.ord.tch k (off_sub h.offo (by simp +contextual)), h.ird.tch k (off_sub h.offi (by simp +contextual)), h.onm, h.inm, fun b hb => Nat.lt_of_lt_of_le (h.olt b hb) k.size, fun b hb => Nat.lt_of_lt_of_le (h.ilt b hb) k.size,
    h.m1, h.k1, h.oi, h.offo, h.offi⟩
/-- Write. -/
theorem macWrite (hk : Pu.HK) (F : HF) (o i l p : By) (v : Value) (w : World) (h : MacAt w hk F o i l) (hv : Rd w v p) (hn : Nm v) (hoff : Off [F.bi, F.si] v) (hlen : (l ++ p).length ≤ 1099511627776) :
    Calls Try.prog 44 #[.pointer (some ⟨F.m, 0, none⟩), v] w fun e w' => e = .returned (.tuple #[.int .i64 p.length, .nilIface]) ∧ Hid (MacAt w' hk F o i (l ++ p) ∧ Tch [F.bi, F.si] w w') := by
  refine (hmWrite hk F.m F.bi F.si F.ov F.iv F.bo F.mar F.kdf F.n l p v w h.row h.inner hv hn hoff hlen).mono ?_
  rintro e w' ⟨rfl, h3⟩
  exact ⟨rfl, h.turnIn h3.out.2 h3.out.1, h3.out.2⟩
end Go.Proofs.Ytgomodhhomekpaa

/-
  HMAC.Sum, where the key's blocks are kept as they are.
-/
namespace Go.Proofs.Ytgomodhhomekpaa
open Go.RowKit Pu Ar
/-- What Sum leaves. -/
def HSE (hk : Pu.HK) (F : HF) (v : Value) (o i l res : By) (w : World) (e : Ending) (w' : World) : Prop :=
  ∃ v', e = .returned v' ∧ Hid (Own w' v' res ∧ MacAt w' hk F o i l ∧ Tch (F.bo :: F.so :: v.ownBlock.toList) w w' ∧ Off F.all v' ∧ (v'.ownBlock = v.ownBlock ∨ ∃ g, v'.ownBlock = some g ∧ w.heap.size ≤ g))
theorem off_cons {b : Nat} {S : List Nat} {v : Value} (h : Off S v) (hb : b ∈ S) : b ∉ v.ownBlock.toList := off_list h hb
/-- A slice's tail. -/
theorem Own.tail {w : World} {g cap N nx : Nat} {xs ys : By} (h : Own w (.slice (some ⟨g, 0, none⟩) N cap) (xs ++ ys)) (hx : nx = xs.length) : Rd w (.slice (some ⟨g, nx, none⟩) (N - nx) (cap - nx)) ys := by
  have hr := h.rd
  obtain ⟨p, c, hv, h1, h2, h3⟩ := hr
  simp only [Value.slice.injEq] at hv
  obtain ⟨rfl, rfl, rfl⟩ := hv
  have hr : Rd w (.slice (some ⟨g, 0, none⟩) (xs ++ ys).length cap) (xs ++ ys) := ⟨_, _, rfl, h1, h2, h3⟩
  have := hr.drop nx (by rw [hx, List.length_append]; omega) (some ⟨g, nx, none⟩) (by
    intro _ b o e
    simp only [Option.some.injEq, Addr.mk.injEq] at e
    obtain ⟨rfl, rfl, -⟩ := e
    rw [Nat.zero_add])
  rwa [show (xs ++ ys).drop nx = ys by rw [hx]; exact List.drop_left] at this
theorem Own.len {w : World} {p : Option Addr} {N cap : Nat} {l : By} (h : Own w (.slice p N cap) l) : N = l.length := by
  obtain ⟨p', c, hv, _⟩ := h.rd
  simp only [Value.slice.injEq] at hv
  exact hv.2.1
theorem own_ex {w : World} {v : Value} {l : By} (h : Own w v l) : ∃ p cap, v = .slice p l.length cap := by
  obtain ⟨p', c, hv, _⟩ := h.rd
  exact ⟨p', c, hv⟩
set_option maxHeartbeats 1000000 in
set_option maxRecDepth 100000 in
theorem macSum0 (hk : Pu.HK) (F : HF) (o i l xs : By) (v : Value) (w : World) (h : MacAt w hk F o i l) (hmar : F.mar = false)
    (hv : Own w v xs) (hvf : Off F.all v) (hl : l.length ≤ 1099511627776) (hol : o.length ≤ 549755813888) (hx : xs.length + 64 ≤ 140737488355328) :
    Calls Try.prog 46 #[.pointer (some ⟨F.m, 0, none⟩), v] w (HSE hk F v o i l (xs ++ hk.hash (o ++ hk.hash l)) w) := by
  have c3 : w.cell? ⟨F.m, 3, none⟩ = some (.iface (hT hk) (.pointer (some ⟨F.bi, 0, none⟩))) := by rw [h.row.cell]; rfl
  have H1 := Lib.hid (hSum hk F.bi F.si l xs v w h.inner hv (off_sub hvf (by simp +contextual [HF.all])) hl (by omega))
  obtain ⟨vp, vc, hve⟩ := own_ex hv
  have HM := Lib.hid h
  have HMAR := Lib.hid hmar
  have HV := Lib.hid hv
  have HVF := Lib.hid hvf
  have HL := Lib.hid hl
  have HOL := Lib.hid hol
  have HX := Lib.hid hx
  have hs1 := h.ok.size_pos
  have hs2 := h.ok.size_le
  clear h hmar hv hvf hl hol hx
  subst hve
  have a1 := mSum hk
  have a2 := cSum hk
  have b1 := mReset hk
  have b2 := cReset hk
  have d1 := mWrite hk
  have d2 := cWrite hk
  go_enter Try.func46, Try.ntmps46
  refine wp_seq_k (fun K0 k0 => ?_)
  have J0 := Lib.hid k0
  clear k0
  go_wp2
  refine J0.out _ _ (wp_seq_k (fun K1 k1 => ?_))
  have J1 := Lib.hid k1
  clear k1
  go_wp2_with (fail)
  refine J1.out _ _ (wp_seq_k (fun K2 k2 => ?_))
  have J2 := Lib.hid k2
  clear k2
  go_wp2_with (fail)
  refine H1.out.mono ?_
  rintro e W1 ⟨v1, rfl, h1⟩
  obtain ⟨hw1, t1, f1⟩ := h1.out
  obtain ⟨g, cap, rfl, hc1, hc2⟩ := hw1.shape (by intro e; have := congrArg List.length e; rw [List.length_append, hk.hash_length] at this; simp at this; omega)
  have hsz : (xs ++ hk.hash l).length = xs.length + hk.size := by rw [List.length_append, hk.hash_length]
  have F1 : Off F.all (.slice (some ⟨g, 0, none⟩) (xs ++ hk.hash l).length cap) := Grew.offs h1.out HVF.out HM.out.lt
  have M1 : Hid (MacAt W1 hk F o i l) := HM.out.tch t1 (fun b hb => off_list HVF.out hb)
  rw [hsz] at hw1 hc1 F1 ⊢
  obtain ⟨nx, hnx⟩ : ∃ nx, nx = xs.length := ⟨_, rfl⟩
  rw [← hnx] at hw1 hc1 F1 ⊢
  obtain ⟨N, hN⟩ : ∃ N, N = nx + hk.size := ⟨_, rfl⟩
  rw [← hN] at hw1 hc1 F1 ⊢
  have O1 := Lib.hid hw1
  have OF1 := Lib.hid F1
  have T1 := Lib.hid t1
  have FR1 := Lib.hid f1
  have HNX := Lib.hid hnx
  have HNN := Lib.hid hN
  have n1 : (nx : Int) ≤ N := by omega
  have n2 : (N : Int) ≤ cap := by exact_mod_cast hc1
  have n3 : (cap : Int) ≤ 9223372036854775807 := by unfold maxLen at hc2; omega
  have n4 : 0 ≤ (nx : Int) := by omega
  have n5 : ¬ cap = nx := by omega
  have c4 : W1.cell? ⟨F.m, 4, none⟩ = some (.bool false) := by rw [M1.out.row.cell, ← HMAR.out]; rfl
  have c2 : W1.cell? ⟨F.m, 2, none⟩ = some (.iface (hT hk) (.pointer (some ⟨F.bo, 0, none⟩))) := by rw [M1.out.row.cell]; rfl
  clear h1 hw1 F1 t1 f1 hsz hc1 hc2 hnx hN hs1 hs2 c3
  go_wp2
  refine J2.out _ _ (wp_seq_k (fun K3 k3 => ?_))
  have J3 := Lib.hid k3
  clear k3 H1
  go_wp2_with (fail)
  obtain ⟨lo, ho1⟩ := M1.out.outer
  refine (hReset hk F.bo F.so lo W1 ho1).mono ?_
  rintro e W2 ⟨rfl, h2⟩
  have M2 : Hid (MacAt W2 hk F o i l) := M1.out.turnOut h2.out.2 h2.out.1
  have ho2 := Lib.hid h2.out.1
  have T2 := Lib.hid h2.out.2
  have O2 : Hid (Own W2 (.slice (some ⟨g, 0, none⟩) N cap) (xs ++ hk.hash l)) := O1.out.tch h2.out.2 (off_sub OF1.out (by simp +contextual [HF.all]))
  clear h2 c4 c2 ho1
  have c2 : W2.cell? ⟨F.m, 2, none⟩ = some (.iface (hT hk) (.pointer (some ⟨F.bo, 0, none⟩))) := by rw [M2.out.row.cell]; rfl
  have c0 : W2.cell? ⟨F.m, 0, none⟩ = some F.ov := by rw [M2.out.row.cell]; rfl
  go_wp2
  refine wp_region_quiet_tail 10 (by kernel_rfl) (by kernel_rfl) ?_
  simp only [List.take_succ_cons, List.take_zero, List.drop_succ_cons, List.drop_zero]
  repeat (go_big_quiet_step (fail))
  refine wpQuiet_nil ?_
  go_wp2_with (fail)
  have M2d : Hid (MacAt W2.drew hk F o i l) := M2.out.tch (Tch.drewN (S := []) W2 1) (by simp)
  have ho2d : HIs W2.drew hk F.bo F.so [] := ho2.out.tch (Tch.drewN (S := []) W2 1) (by simp) (by simp) (by simp)
  refine (hWrite hk F.bo F.so [] o F.ov W2.drew ho2d M2d.out.ord M2d.out.onm (off_sub M2d.out.offo (by simp +contextual)) (by have := HOL.out; simp; omega)).mono ?_
  rintro e W3 ⟨rfl, h3⟩
  have M3 : Hid (MacAt W3 hk F o i l) := M2d.out.turnOut h3.out.2 h3.out.1
  have ho3 : Hid (HIs W3 hk F.bo F.so o) := h3.out.1
  have T3 : Hid (Tch [F.bo, F.so] W1 W3) := T2.out.trans ((Tch.drewN W2 1).trans h3.out.2)
  have O3 : Hid (Own W3 (.slice (some ⟨g, 0, none⟩) N cap) (xs ++ hk.hash l)) := O1.out.tch T3.out (off_sub OF1.out (by simp +contextual [HF.all]))
  clear h3 c2 c0 ho2d M2d M2 ho2 T2 O2
  have c2 : W3.cell? ⟨F.m, 2, none⟩ = some (.iface (hT hk) (.pointer (some ⟨F.bo, 0, none⟩))) := by rw [M3.out.row.cell]; rfl
  go_wp2
  refine J3.out _ _ (wp_seq_k (fun K4 k4 => ?_))
  have J4 := Lib.hid k4
  clear k4
  refine wp_region_quiet_tail 9 (by kernel_rfl) (by kernel_rfl) ?_
  simp only [List.take_succ_cons, List.take_zero, List.drop_succ_cons, List.drop_zero]
  repeat (go_big_quiet_step (fail))
  refine wpQuiet_nil ?_
  go_wp2_with (fail)
  have M3d : Hid (MacAt W3.drew hk F o i l) := M3.out.tch (Tch.drewN (S := []) W3 1) (by simp)
  have ho3d : HIs W3.drew hk F.bo F.so o := ho3.out.tch (Tch.drewN (S := []) W3 1) (by simp) (by simp) (by simp)
  have O3d : Own W3.drew (.slice (some ⟨g, 0, none⟩) N cap) (xs ++ hk.hash l) := O3.out.tch (Tch.drewN (S := []) W3 1) (by intro i _; simp)
  refine (hWrite hk F.bo F.so o (hk.hash l) _ W3.drew ho3d (O3d.tail HNX.out) (.inr ⟨_, _, _, _, rfl⟩) (by intro i hi; exact OF1.out i hi |> fun h hm => h (by simp only [HF.all, List.mem_cons, List.not_mem_nil, or_false] at hm ⊢; omega)) (by have := HOL.out; rw [List.length_append, hk.hash_length]; have := M3d.out.ok.size_le; omega)).mono ?_
  rintro e W4 ⟨rfl, h4⟩
  have M4 : Hid (MacAt W4 hk F o i l) := M3d.out.turnOut h4.out.2 h4.out.1
  have ho4 : Hid (HIs W4 hk F.bo F.so (o ++ hk.hash l)) := h4.out.1
  have T4 : Hid (Tch [F.bo, F.so] W1 W4) := T3.out.trans ((Tch.drewN W3 1).trans h4.out.2)
  have O4 : Hid (Own W4 (.slice (some ⟨g, 0, none⟩) N cap) (xs ++ hk.hash l)) := O1.out.tch T4.out (off_sub OF1.out (by simp +contextual [HF.all]))
  clear h4 c2 ho3d M3d M3 ho3 T3 O3 O3d
  have c2 : W4.cell? ⟨F.m, 2, none⟩ = some (.iface (hT hk) (.pointer (some ⟨F.bo, 0, none⟩))) := by rw [M4.out.row.cell]; rfl
  have n6 : (nx : Int) ≤ cap := by omega
  go_wp2
  refine J4.out _ _ (wp_seq_k (fun K5 k5 => ?_))
  have J5 := Lib.hid k5
  clear k5
  refine wp_region_quiet_tail 9 (by kernel_rfl) (by kernel_rfl) ?_
  simp only [List.take_succ_cons, List.take_zero, List.drop_succ_cons, List.drop_zero]
  repeat (go_big_quiet_step (fail))
  refine wpQuiet_nil ?_
  go_wp2_with (fail)
  have M4d : Hid (MacAt W4.drew hk F o i l) := M4.out.tch (Tch.drewN (S := []) W4 1) (by simp)
  have ho4d : HIs W4.drew hk F.bo F.so (o ++ hk.hash l) := ho4.out.tch (Tch.drewN (S := []) W4 1) (by simp) (by simp) (by simp)
  have O4d : Own W4.drew (.slice (some ⟨g, 0, none⟩) N cap) (xs ++ hk.hash l) := O4.out.tch (Tch.drewN (S := []) W4 1) (by intro i _; simp)
  have O4e : Own W4.drew (.slice (some ⟨g, 0, none⟩) nx cap) xs := by
    have := O4d.len
    subst this
    rw [HNX.out]; exact O4d.front
  refine (hSum hk F.bo F.so (o ++ hk.hash l) xs _ W4.drew ho4d O4e (by intro i hi hm; exact OF1.out i hi (by simp only [HF.all, List.mem_cons, List.not_mem_nil, or_false] at hm ⊢; omega)) (by have := HOL.out; rw [List.length_append, hk.hash_length]; have := M4d.out.ok.size_le; omega) (by have := HX.out; omega)).mono ?_
  rintro e W5 ⟨v5, rfl, h5⟩
  go_wp2
  refine J5.out _ _ ?_
  go_wp2
  go_ret
  obtain ⟨p1, p2, p3⟩ := h5.out
  have OFg : Off F.all (.slice (some ⟨g, 0, none⟩) nx cap) := fun i hi => OF1.out i hi
  refine ⟨v5, rfl, p1, M4d.out.tch p2 (fun b hb => off_list OFg hb), ?_, Grew.offs h5.out OFg M4d.out.lt, ?_⟩
  · have t : Tch (F.bo :: F.so :: (Value.slice vp xs.length vc).ownBlock.toList) w W4.drew := (T1.out.mono (by simp +contextual)).trans ((T4.out.trans (Tch.drewN W4 1)).mono (by simp +contextual))
    refine t.new p2 ?_
    intro b hb
    have hb' : b = g := by simpa [Value.ownBlock] using hb
    subst hb'
    rcases FR1.out with h | ⟨g2, h, hg⟩
    · left
      rw [← h]; simp [Value.ownBlock]
    · right
      have : b = g2 := by simpa [Value.ownBlock] using h
      rw [this]; exact hg
  · have ws : w.heap.size ≤ W4.drew.heap.size := Nat.le_trans T1.out.size T4.out.size
    rcases p3 with h | ⟨g2, h, hg⟩
    · rcases FR1.out with h' | ⟨g2, h', hg⟩
      · exact .inl (h.trans h')
      · exact .inr ⟨g2, h.trans h', hg⟩
    · exact .inr ⟨g2, h, Nat.le_trans ws hg⟩
end Go.Proofs.Ytgomodhhomekpaa

/-
  hmac.New's loops: each byte of a key's block is turned.
-/
namespace Go.Proofs.Ytgomodhhomekpaa
open Go.RowKit Pu Ar
theorem xor_c36 (x : UInt8) : bits .xor .u8 (ib x) 54 = ib (x ^^^ 0x36) := by rw [show (54 : Int) = ib 0x36 by decide, Ar.bits_xor8]
theorem xor_c5c (x : UInt8) : bits .xor .u8 (ib x) 92 = ib (x ^^^ 0x5c) := by rw [show (92 : Int) = ib 0x5c by decide, Ar.bits_xor8]
theorem take_set_xor (st bs : By) (i : Nat) (c : UInt8) (hi : i < bs.length) (h : st = (bs.take i).map (· ^^^ c) ++ bs.drop i) :
    st.set i (bs.getD i 0 ^^^ c) = (bs.take (i + 1)).map (· ^^^ c) ++ bs.drop (i + 1) := by
  subst h
  rw [List.set_append_right _ _ (by simp; omega)]
  have e : i - ((bs.take i).map (· ^^^ c)).length = 0 := by simp; omega
  rw [e, List.drop_eq_getElem_cons hi, List.set_cons_zero, List.take_succ_eq_append_getElem hi, List.map_append, List.append_assoc, List.getD_eq_getElem?_getD, List.getElem?_eq_getElem hi]
  rfl
def nlDIP (a : Act) (w : World) (ib' i : Nat) (st : By) (a' : Act) (w' : World) : Prop :=
  Frm 121 a' ∧ Same [0, 1, 5, 77] a a' ∧ G a' 78 = .int .i64 ((i : Int) + 1) ∧ Row w' ib' 5 ((st.set i (st.getD i 0 ^^^ 0x36)).map vb) ∧ Tch [ib'] w w'
set_option maxRecDepth 100000 in
theorem nlDIRound (a : Act) (w : World) (h : Frm 121 a) (Q : Exit → Act → World → Prop) (hv m ib' i bl : Nat) (st : By)
    (hi : i < bl) (hst : st.length = bl) (hbl : (bl : Int) ≤ 64) (c0 : w.cell? ⟨hv, 0, none⟩ = some (.pointer (some ⟨m, 0, none⟩))) (c1 : w.cell? ⟨m, 1, none⟩ = some (.slice (some ⟨ib', 0, none⟩) bl bl)) (hr : Row w ib' 5 (st.map vb))
    (g5 : G a 5 = .pointer (some ⟨hv, 0, none⟩)) (gl : G a 77 = .int .i64 bl) (gi : G a 78 = .int .i64 i)
    (hQ : ∀ a' w', nlDIP a w ib' i st a' w' → Q .normal a' w') :
    (part (bodyOf Try.f64) [true, true, true, true, true, true, true, true, true, true, true, true, true, false, true, false, false]).wp Try.prog Q a w := by
  have hii : (i : Int) < bl := by exact_mod_cast hi
  have s1 : w.cell? ⟨ib', i, none⟩ = some (.int .u8 (ib (st.getD i 0))) := by
    rw [hr.cell]; simp [List.getD_eq_getElem?_getD, List.getElem?_eq_getElem (show i < st.length by omega), vb]
  have f1 := hr.free i
  have e4 := xor_c36
  generalize hy : st.getD i 0 = y at s1
  conv => arg 2; whnf
  rw [lit121 a h]
  simp only [g5, gl, gi]
  have G5 := Lib.hid g5
  have GL := Lib.hid gl
  have HR := Lib.hid hr
  have HY := Lib.hid hy
  clear h g5 gl gi hr hst hy
  go_wp2
  have E5 := G5.out
  have EL := GL.out
  refine ⟨⟨rfl, rfl⟩, ⟨rfl, rfl, E5.symm, EL.symm, trivial⟩, rfl, ?_, Tch.setCell _ _ _ (by simp)⟩
  rw [List.map_set, HY.out]; exact HR.out.set _ _
def nlDIX (a : Act) (w : World) (a' : Act) (w' : World) : Prop := Frm 121 a' ∧ Same [0, 1, 5] a a' ∧ w' = w
set_option maxRecDepth 100000 in
theorem nlDILeave (a : Act) (w : World) (h : Frm 121 a) (Q : Exit → Act → World → Prop) (bl : Nat) (gl : G a 77 = .int .i64 bl) (gi : G a 78 = .int .i64 bl)
    (hQ : ∀ a' w', nlDIX a w a' w' → Q (.exit 0) a' w') :
    (part (bodyOf Try.f64) [true, true, true, true, true, true, true, true, true, true, true, true, true, false, true, false, false]).wp Try.prog Q a w := by
  conv => arg 2; whnf
  rw [lit121 a h]
  simp only [gl, gi]
  clear h gl gi
  go_wp2
  exact ⟨⟨rfl, rfl⟩, ⟨rfl, rfl, rfl, trivial⟩, rfl⟩
theorem nlDILoop_eq : part (bodyOf Try.f64) [true, true, true, true, true, true, true, true, true, true, true, true, true, false, true, false] = .loop (part (bodyOf Try.f64) [true, true, true, true, true, true, true, true, true, true, true, true, true, false, true, false, false]) := by kernel_rfl
structure nlDII (a0 : Act) (w0 : World) (ib' bl : Nat) (bs : By) (i : Nat) (a : Act) (w : World) : Prop where
  frm : Frm 121 a
  same : Same [0, 1, 5, 77] a0 a
  le : i ≤ bl
  gi : G a 78 = .int .i64 (i : Int)
  row : Row w ib' 5 (((bs.take i).map (· ^^^ 0x36) ++ bs.drop i).map vb)
  tch : Tch [ib'] w0 w
def nlDIE (a : Act) (w : World) (ib' : Nat) (bs : By) (a' : Act) (w' : World) : Prop :=
  Frm 121 a' ∧ Same [0, 1, 5] a a' ∧ Row w' ib' 5 ((bs.map (· ^^^ 0x36)).map vb) ∧ Tch [ib'] w w'
theorem nlDILoop (a : Act) (w : World) (h : Frm 121 a) (Q : Exit → Act → World → Prop) (hv m ib' bl : Nat) (bs : By) (hst : bs.length = bl) (hbl : bl ≤ 64)
    (c0 : w.cell? ⟨hv, 0, none⟩ = some (.pointer (some ⟨m, 0, none⟩))) (c1 : w.cell? ⟨m, 1, none⟩ = some (.slice (some ⟨ib', 0, none⟩) bl bl)) (hr : Row w ib' 5 (bs.map vb)) (h1 : hv ≠ ib') (h2 : m ≠ ib')
    (g5 : G a 5 = .pointer (some ⟨hv, 0, none⟩)) (gl : G a 77 = .int .i64 bl) (gi : G a 78 = .int .i64 0)
    (hQ : ∀ a' w', nlDIE a w ib' bs a' w' → Q (.exit 0) a' w') :
    (part (bodyOf Try.f64) [true, true, true, true, true, true, true, true, true, true, true, true, true, false, true, false]).wp Try.prog Q a w := by
  rw [nlDILoop_eq]
  refine wp_loop (fun a' w' => ∃ i, nlDII a w ib' bl bs i a' w') (fun a' _ => bl - (intOf (G a' 78)).toNat) ⟨0, h, by simp [Same], by omega, gi, by simpa using hr, Tch.refl _ _⟩ ?_
  rintro a1 w1 ⟨i, I⟩
  by_cases hi : i < bl
  · have ec : ((bs.take i).map (· ^^^ 0x36) ++ bs.drop i).getD i 0 = bs.getD i 0 := by
      rw [List.getD_eq_getElem?_getD, List.getElem?_append_right (by simp; omega), List.getElem?_drop, List.getD_eq_getElem?_getD]
      congr 2
      simp only [List.length_map, List.length_take]; omega
    refine nlDIRound a1 w1 I.frm _ hv m ib' i bl _ hi (by simp; omega) (by omega) (I.tch.cell c0 (by simpa using h1)) (I.tch.cell c1 (by simpa using h2)) I.row ((I.same.get 5 rfl).trans g5) ((I.same.get 77 rfl).trans gl) I.gi ?_
    rintro a' w' ⟨p1, p2, p3, p4, p5⟩
    simp only [Exit.then]
    refine ⟨⟨i + 1, p1, ?_, by omega, p3, ?_, I.tch.trans p5⟩, ?_⟩
    · have s := I.same
      simp only [Same] at s p2 ⊢
      simp only [p2, s, and_self]
    · rw [ec, take_set_xor _ bs i _ (by omega) rfl] at p4; exact p4
    · rw [p3, I.gi]; simp [intOf]; omega
  · have hi' : i = bl := by have := I.le; omega
    subst hi'
    refine nlDILeave a1 w1 I.frm _ i ((I.same.get 77 rfl).trans gl) I.gi ?_
    rintro a' w' ⟨p1, p2, rfl⟩
    simp only [Exit.then]
    have s := I.same
    have r := I.row
    rw [List.take_of_length_le (by omega), List.drop_of_length_le (by omega), List.append_nil] at r
    refine hQ _ _ ⟨p1, ?_, r, I.tch⟩
    simp only [Same] at s p2 ⊢
    simp only [p2, s, and_self]
def nlDOP (a : Act) (w : World) (ib' i : Nat) (st : By) (a' : Act) (w' : World) : Prop :=
  Frm 121 a' ∧ Same [0, 1, 5, 95] a a' ∧ G a' 96 = .int .i64 ((i : Int) + 1) ∧ Row w' ib' 5 ((st.set i (st.getD i 0 ^^^ 0x5c)).map vb) ∧ Tch [ib'] w w'
set_option maxRecDepth 100000 in
theorem nlDORound (a : Act) (w : World) (h : Frm 121 a) (Q : Exit → Act → World → Prop) (hv m ib' i bl : Nat) (st : By)
    (hi : i < bl) (hst : st.length = bl) (hbl : (bl : Int) ≤ 64) (c0 : w.cell? ⟨hv, 0, none⟩ = some (.pointer (some ⟨m, 0, none⟩))) (c1 : w.cell? ⟨m, 0, none⟩ = some (.slice (some ⟨ib', 0, none⟩) bl bl)) (hr : Row w ib' 5 (st.map vb))
    (g5 : G a 5 = .pointer (some ⟨hv, 0, none⟩)) (gl : G a 95 = .int .i64 bl) (gi : G a 96 = .int .i64 i)
    (hQ : ∀ a' w', nlDOP a w ib' i st a' w' → Q .normal a' w') :
    (part (bodyOf Try.f64) [true, true, true, true, true, true, true, true, true, true, true, true, true, true, false, true, false, false]).wp Try.prog Q a w := by
  have hii : (i : Int) < bl := by exact_mod_cast hi
  have s1 : w.cell? ⟨ib', i, none⟩ = some (.int .u8 (ib (st.getD i 0))) := by
    rw [hr.cell]; simp [List.getD_eq_getElem?_getD, List.getElem?_eq_getElem (show i < st.length by omega), vb]
  have f1 := hr.free i
  have e4 := xor_c5c
  generalize hy : st.getD i 0 = y at s1
  conv => arg 2; whnf
  rw [lit121 a h]
  simp only [g5, gl, gi]
  have G5 := Lib.hid g5
  have GL := Lib.hid gl
  have HR := Lib.hid hr
  have HY := Lib.hid hy
  clear h g5 gl gi hr hst hy
  go_wp2
  have E5 := G5.out
  have EL := GL.out
  refine ⟨⟨rfl, rfl⟩, ⟨rfl, rfl, E5.symm, EL.symm, trivial⟩, rfl, ?_, Tch.setCell _ _ _ (by simp)⟩
  rw [List.map_set, HY.out]; exact HR.out.set _ _
def nlDOX (a : Act) (w : World) (a' : Act) (w' : World) : Prop := Frm 121 a' ∧ Same [0, 1, 5] a a' ∧ w' = w
set_option maxRecDepth 100000 in
theorem nlDOLeave (a : Act) (w : World) (h : Frm 121 a) (Q : Exit → Act → World → Prop) (bl : Nat) (gl : G a 95 = .int .i64 bl) (gi : G a 96 = .int .i64 bl)
    (hQ : ∀ a' w', nlDOX a w a' w' → Q (.exit 2) a' w') :
    (part (bodyOf Try.f64) [true, true, true, true, true, true, true, true, true, true, true, true, true, true, false, true, false, false]).wp Try.prog Q a w := by
  conv => arg 2; whnf
  rw [lit121 a h]
  simp only [gl, gi]
  clear h gl gi
  go_wp2
  exact ⟨⟨rfl, rfl⟩, ⟨rfl, rfl, rfl, trivial⟩, rfl⟩
theorem nlDOLoop_eq : part (bodyOf Try.f64) [true, true, true, true, true, true, true, true, true, true, true, true, true, true, false, true, false] = .loop (part (bodyOf Try.f64) [true, true, true, true, true, true, true, true, true, true, true, true, true, true, false, true, false, false]) := by kernel_rfl
structure nlDOI (a0 : Act) (w0 : World) (ib' bl : Nat) (bs : By) (i : Nat) (a : Act) (w : World) : Prop where
  frm : Frm 121 a
  same : Same [0, 1, 5, 95] a0 a
  le : i ≤ bl
  gi : G a 96 = .int .i64 (i : Int)
  row : Row w ib' 5 (((bs.take i).map (· ^^^ 0x5c) ++ bs.drop i).map vb)
  tch : Tch [ib'] w0 w
def nlDOE (a : Act) (w : World) (ib' : Nat) (bs : By) (a' : Act) (w' : World) : Prop :=
  Frm 121 a' ∧ Same [0, 1, 5] a a' ∧ Row w' ib' 5 ((bs.map (· ^^^ 0x5c)).map vb) ∧ Tch [ib'] w w'
theorem nlDOLoop (a : Act) (w : World) (h : Frm 121 a) (Q : Exit → Act → World → Prop) (hv m ib' bl : Nat) (bs : By) (hst : bs.length = bl) (hbl : bl ≤ 64)
    (c0 : w.cell? ⟨hv, 0, none⟩ = some (.pointer (some ⟨m, 0, none⟩))) (c1 : w.cell? ⟨m, 0, none⟩ = some (.slice (some ⟨ib', 0, none⟩) bl bl)) (hr : Row w ib' 5 (bs.map vb)) (h1 : hv ≠ ib') (h2 : m ≠ ib')
    (g5 : G a 5 = .pointer (some ⟨hv, 0, none⟩)) (gl : G a 95 = .int .i64 bl) (gi : G a 96 = .int .i64 0)
    (hQ : ∀ a' w', nlDOE a w ib' bs a' w' → Q (.exit 2) a' w') :
    (part (bodyOf Try.f64) [true, true, true, true, true, true, true, true, true, true, true, true, true, true, false, true, false]).wp Try.prog Q a w := by
  rw [nlDOLoop_eq]
  refine wp_loop (fun a' w' => ∃ i, nlDOI a w ib' bl bs i a' w') (fun a' _ => bl - (intOf (G a' 96)).toNat) ⟨0, h, by simp [Same], by omega, gi, by simpa using hr, Tch.refl _ _⟩ ?_
  rintro a1 w1 ⟨i, I⟩
  by_cases hi : i < bl
  · have ec : ((bs.take i).map (· ^^^ 0x5c) ++ bs.drop i).getD i 0 = bs.getD i 0 := by
      rw [List.getD_eq_getElem?_getD, List.getElem?_append_right (by simp; omega), List.getElem?_drop, List.getD_eq_getElem?_getD]
      congr 2
      simp only [List.length_map, List.length_take]; omega
    refine nlDORound a1 w1 I.frm _ hv m ib' i bl _ hi (by simp; omega) (by omega) (I.tch.cell c0 (by simpa using h1)) (I.tch.cell c1 (by simpa using h2)) I.row ((I.same.get 5 rfl).trans g5) ((I.same.get 95 rfl).trans gl) I.gi ?_
    rintro a' w' ⟨p1, p2, p3, p4, p5⟩
    simp only [Exit.then]
    refine ⟨⟨i + 1, p1, ?_, by omega, p3, ?_, I.tch.trans p5⟩, ?_⟩
    · have s := I.same
      simp only [Same] at s p2 ⊢
      simp only [p2, s, and_self]
    · rw [ec, take_set_xor _ bs i _ (by omega) rfl] at p4; exact p4
    · rw [p3, I.gi]; simp [intOf]; omega
  · have hi' : i = bl := by have := I.le; omega
    subst hi'
    refine nlDOLeave a1 w1 I.frm _ i ((I.same.get 95 rfl).trans gl) I.gi ?_
    rintro a' w' ⟨p1, p2, rfl⟩
    simp only [Exit.then]
    have s := I.same
    have r := I.row
    rw [List.take_of_length_le (by omega), List.drop_of_length_le (by omega), List.append_nil] at r
    refine hQ _ _ ⟨p1, ?_, r, I.tch⟩
    simp only [Same] at s p2 ⊢
    simp only [p2, s, and_self]
def nlOIP (a : Act) (w : World) (ib' i : Nat) (st : By) (a' : Act) (w' : World) : Prop :=
  Frm 121 a' ∧ Same [0, 1, 5, 77] a a' ∧ G a' 78 = .int .i64 ((i : Int) + 1) ∧ Row w' ib' 5 ((st.set i (st.getD i 0 ^^^ 0x36)).map vb) ∧ Tch [ib'] w w'
set_option maxRecDepth 100000 in
theorem nlOIRound (a : Act) (w : World) (h : Frm 121 a) (Q : Exit → Act → World → Prop) (hv m ib' i bl : Nat) (st : By)
    (hi : i < bl) (hst : st.length = bl) (hbl : (bl : Int) ≤ 64) (c0 : w.cell? ⟨hv, 0, none⟩ = some (.pointer (some ⟨m, 0, none⟩))) (c1 : w.cell? ⟨m, 1, none⟩ = some (.slice (some ⟨ib', 0, none⟩) bl bl)) (hr : Row w ib' 5 (st.map vb))
    (g5 : G a 5 = .pointer (some ⟨hv, 0, none⟩)) (gl : G a 77 = .int .i64 bl) (gi : G a 78 = .int .i64 i)
    (hQ : ∀ a' w', nlOIP a w ib' i st a' w' → Q .normal a' w') :
    (part (bodyOf Try.f65) [true, true, true, true, true, true, true, true, true, true, true, true, true, false, true, false, false]).wp Try.prog Q a w := by
  have hii : (i : Int) < bl := by exact_mod_cast hi
  have s1 : w.cell? ⟨ib', i, none⟩ = some (.int .u8 (ib (st.getD i 0))) := by
    rw [hr.cell]; simp [List.getD_eq_getElem?_getD, List.getElem?_eq_getElem (show i < st.length by omega), vb]
  have f1 := hr.free i
  have e4 := xor_c36
  generalize hy : st.getD i 0 = y at s1
  conv => arg 2; whnf
  rw [lit121 a h]
  simp only [g5, gl, gi]
  have G5 := Lib.hid g5
  have GL := Lib.hid gl
  have HR := Lib.hid hr
  have HY := Lib.hid hy
  clear h g5 gl gi hr hst hy
  go_wp2
  have E5 := G5.out
  have EL := GL.out
  refine ⟨⟨rfl, rfl⟩, ⟨rfl, rfl, E5.symm, EL.symm, trivial⟩, rfl, ?_, Tch.setCell _ _ _ (by simp)⟩
  rw [List.map_set, HY.out]; exact HR.out.set _ _
def nlOIX (a : Act) (w : World) (a' : Act) (w' : World) : Prop := Frm 121 a' ∧ Same [0, 1, 5] a a' ∧ w' = w
set_option maxRecDepth 100000 in
theorem nlOILeave (a : Act) (w : World) (h : Frm 121 a) (Q : Exit → Act → World → Prop) (bl : Nat) (gl : G a 77 = .int .i64 bl) (gi : G a 78 = .int .i64 bl)
    (hQ : ∀ a' w', nlOIX a w a' w' → Q (.exit 0) a' w') :
    (part (bodyOf Try.f65) [true, true, true, true, true, true, true, true, true, true, true, true, true, false, true, false, false]).wp Try.prog Q a w := by
  conv => arg 2; whnf
  rw [lit121 a h]
  simp only [gl, gi]
  clear h gl gi
  go_wp2
  exact ⟨⟨rfl, rfl⟩, ⟨rfl, rfl, rfl, trivial⟩, rfl⟩
theorem nlOILoop_eq : part (bodyOf Try.f65) [true, true, true, true, true, true, true, true, true, true, true, true, true, false, true, false] = .loop (part (bodyOf Try.f65) [true, true, true, true, true, true, true, true, true, true, true, true, true, false, true, false, false]) := by kernel_rfl
structure nlOII (a0 : Act) (w0 : World) (ib' bl : Nat) (bs : By) (i : Nat) (a : Act) (w : World) : Prop where
  frm : Frm 121 a
  same : Same [0, 1, 5, 77] a0 a
  le : i ≤ bl
  gi : G a 78 = .int .i64 (i : Int)
  row : Row w ib' 5 (((bs.take i).map (· ^^^ 0x36) ++ bs.drop i).map vb)
  tch : Tch [ib'] w0 w
def nlOIE (a : Act) (w : World) (ib' : Nat) (bs : By) (a' : Act) (w' : World) : Prop :=
  Frm 121 a' ∧ Same [0, 1, 5] a a' ∧ Row w' ib' 5 ((bs.map (· ^^^ 0x36)).map vb) ∧ Tch [ib'] w w'
theorem nlOILoop (a : Act) (w : World) (h : Frm 121 a) (Q : Exit → Act → World → Prop) (hv m ib' bl : Nat) (bs : By) (hst : bs.length = bl) (hbl : bl ≤ 64)
    (c0 : w.cell? ⟨hv, 0, none⟩ = some (.pointer (some ⟨m, 0, none⟩))) (c1 : w.cell? ⟨m, 1, none⟩ = some (.slice (some ⟨ib', 0, none⟩) bl bl)) (hr : Row w ib' 5 (bs.map vb)) (h1 : hv ≠ ib') (h2 : m ≠ ib')
    (g5 : G a 5 = .pointer (some ⟨hv, 0, none⟩)) (gl : G a 77 = .int .i64 bl) (gi : G a 78 = .int .i64 0)
    (hQ : ∀ a' w', nlOIE a w ib' bs a' w' → Q (.exit 0) a' w') :
    (part (bodyOf Try.f65) [true, true, true, true, true, true, true, true, true, true, true, true, true, false, true, false]).wp Try.prog Q a w := by
  rw [nlOILoop_eq]
  refine wp_loop (fun a' w' => ∃ i, nlOII a w ib' bl bs i a' w') (fun a' _ => bl - (intOf (G a' 78)).toNat) ⟨0, h, by simp [Same], by omega, gi, by simpa using hr, Tch.refl _ _⟩ ?_
  rintro a1 w1 ⟨i, I⟩
  by_cases hi : i < bl
  · have ec : ((bs.take i).map (· ^^^ 0x36) ++ bs.drop i).getD i 0 = bs.getD i 0 := by
      rw [List.getD_eq_getElem?_getD, List.getElem?_append_right (by simp; omega), List.getElem?_drop, List.getD_eq_getElem?_getD]
      congr 2
      simp only [List.length_map, List.length_take]; omega
    refine nlOIRound a1 w1 I.frm _ hv m ib' i bl _ hi (by simp; omega) (by omega) (I.tch.cell c0 (by simpa using h1)) (I.tch.cell c1 (by simpa using h2)) I.row ((I.same.get 5 rfl).trans g5) ((I.same.get 77 rfl).trans gl) I.gi ?_
    rintro a' w' ⟨p1, p2, p3, p4, p5⟩
    simp only [Exit.then]
    refine ⟨⟨i + 1, p1, ?_, by omega, p3, ?_, I.tch.trans p5⟩, ?_⟩
    · have s := I.same
      simp only [Same] at s p2 ⊢
      simp only [p2, s, and_self]
    · rw [ec, take_set_xor _ bs i _ (by omega) rfl] at p4; exact p4
    · rw [p3, I.gi]; simp [intOf]; omega
  · have hi' : i = bl := by have := I.le; omega
    subst hi'
    refine nlOILeave a1 w1 I.frm _ i ((I.same.get 77 rfl).trans gl) I.gi ?_
    rintro a' w' ⟨p1, p2, rfl⟩
    simp only [Exit.then]
    have s := I.same
    have r := I.row
    rw [List.take_of_length_le (by omega), List.drop_of_length_le (by omega), List.append_nil] at r
    refine hQ _ _ ⟨p1, ?_, r, I.tch⟩
    simp only [Same] at s p2 ⊢
    simp only [p2, s, and_self]
def nlOOP (a : Act) (w : World) (ib' i : Nat) (st : By) (a' : Act) (w' : World) : Prop :=
  Frm 121 a' ∧ Same [0, 1, 5, 95] a a' ∧ G a' 96 = .int .i64 ((i : Int) + 1) ∧ Row w' ib' 5 ((st.set i (st.getD i 0 ^^^ 0x5c)).map vb) ∧ Tch [ib'] w w'
set_option maxRecDepth 100000 in
theorem nlOORound (a : Act) (w : World) (h : Frm 121 a) (Q : Exit → Act → World → Prop) (hv m ib' i bl : Nat) (st : By)
    (hi : i < bl) (hst : st.length = bl) (hbl : (bl : Int) ≤ 64) (c0 : w.cell? ⟨hv, 0, none⟩ = some (.pointer (some ⟨m, 0, none⟩))) (c1 : w.cell? ⟨m, 0, none⟩ = some (.slice (some ⟨ib', 0, none⟩) bl bl)) (hr : Row w ib' 5 (st.map vb))
    (g5 : G a 5 = .pointer (some ⟨hv, 0, none⟩)) (gl : G a 95 = .int .i64 bl) (gi : G a 96 = .int .i64 i)
    (hQ : ∀ a' w', nlOOP a w ib' i st a' w' → Q .normal a' w') :
    (part (bodyOf Try.f65) [true, true, true, true, true, true, true, true, true, true, true, true, true, true, false, true, false, false]).wp Try.prog Q a w := by
  have hii : (i : Int) < bl := by exact_mod_cast hi
  have s1 : w.cell? ⟨ib', i, none⟩ = some (.int .u8 (ib (st.getD i 0))) := by
    rw [hr.cell]; simp [List.getD_eq_getElem?_getD, List.getElem?_eq_getElem (show i < st.length by omega), vb]
  have f1 := hr.free i
  have e4 := xor_c5c
  generalize hy : st.getD i 0 = y at s1
  conv => arg 2; whnf
  rw [lit121 a h]
  simp only [g5, gl, gi]
  have G5 := Lib.hid g5
  have GL := Lib.hid gl
  have HR := Lib.hid hr
  have HY := Lib.hid hy
  clear h g5 gl gi hr hst hy
  go_wp2
  have E5 := G5.out
  have EL := GL.out
  refine ⟨⟨rfl, rfl⟩, ⟨rfl, rfl, E5.symm, EL.symm, trivial⟩, rfl, ?_, Tch.setCell _ _ _ (by simp)⟩
  rw [List.map_set, HY.out]; exact HR.out.set _ _
def nlOOX (a : Act) (w : World) (a' : Act) (w' : World) : Prop := Frm 121 a' ∧ Same [0, 1, 5] a a' ∧ w' = w
set_option maxRecDepth 100000 in
theorem nlOOLeave (a : Act) (w : World) (h : Frm 121 a) (Q : Exit → Act → World → Prop) (bl : Nat) (gl : G a 95 = .int .i64 bl) (gi : G a 96 = .int .i64 bl)
    (hQ : ∀ a' w', nlOOX a w a' w' → Q (.exit 2) a' w') :
    (part (bodyOf Try.f65) [true, true, true, true, true, true, true, true, true, true, true, true, true, true, false, true, false, false]).wp Try.prog Q a w := by
  conv => arg 2; whnf
  rw [lit121 a h]
  simp only [gl, gi]
  clear h gl gi
  go_wp2
  exact ⟨⟨rfl, rfl⟩, ⟨rfl, rfl, rfl, trivial⟩, rfl⟩
theorem nlOOLoop_eq : part (bodyOf Try.f65) [true, true, true, true, true, true, true, true, true, true, true, true, true, true, false, true, false] = .loop (part (bodyOf Try.f65) [true, true, true, true, true, true, true, true, true, true, true, true, true, true, false, true, false, false]) := by kernel_rfl
structure nlOOI (a0 : Act) (w0 : World) (ib' bl : Nat) (bs : By) (i : Nat) (a : Act) (w : World) : Prop where
  frm : Frm 121 a
  same : Same [0, 1, 5, 95] a0 a
  le : i ≤ bl
  gi : G a 96 = .int .i64 (i : Int)
  row : Row w ib' 5 (((bs.take i).map (· ^^^ 0x5c) ++ bs.drop i).map vb)
  tch : Tch [ib'] w0 w
def nlOOE (a : Act) (w : World) (ib' : Nat) (bs : By) (a' : Act) (w' : World) : Prop :=
  Frm 121 a' ∧ Same [0, 1, 5] a a' ∧ Row w' ib' 5 ((bs.map (· ^^^ 0x5c)).map vb) ∧ Tch [ib'] w w'
theorem nlOOLoop (a : Act) (w : World) (h : Frm 121 a) (Q : Exit → Act → World → Prop) (hv m ib' bl : Nat) (bs : By) (hst : bs.length = bl) (hbl : bl ≤ 64)
    (c0 : w.cell? ⟨hv, 0, none⟩ = some (.pointer (some ⟨m, 0, none⟩))) (c1 : w.cell? ⟨m, 0, none⟩ = some (.slice (some ⟨ib', 0, none⟩) bl bl)) (hr : Row w ib' 5 (bs.map vb)) (h1 : hv ≠ ib') (h2 : m ≠ ib')
    (g5 : G a 5 = .pointer (some ⟨hv, 0, none⟩)) (gl : G a 95 = .int .i64 bl) (gi : G a 96 = .int .i64 0)
    (hQ : ∀ a' w', nlOOE a w ib' bs a' w' → Q (.exit 2) a' w') :
    (part (bodyOf Try.f65) [true, true, true, true, true, true, true, true, true, true, true, true, true, true, false, true, false]).wp Try.prog Q a w := by
  rw [nlOOLoop_eq]
  refine wp_loop (fun a' w' => ∃ i, nlOOI a w ib' bl bs i a' w') (fun a' _ => bl - (intOf (G a' 96)).toNat) ⟨0, h, by simp [Same], by omega, gi, by simpa using hr, Tch.refl _ _⟩ ?_
  rintro a1 w1 ⟨i, I⟩
  by_cases hi : i < bl
  · have ec : ((bs.take i).map (· ^^^ 0x5c) ++ bs.drop i).getD i 0 = bs.getD i 0 := by
      rw [List.getD_eq_getElem?_getD, List.getElem?_append_right (by simp; omega), List.getElem?_drop, List.getD_eq_getElem?_getD]
      congr 2
      simp only [List.length_map, List.length_take]; omega
    refine nlOORound a1 w1 I.frm _ hv m ib' i bl _ hi (by simp; omega) (by omega) (I.tch.cell c0 (by simpa using h1)) (I.tch.cell c1 (by simpa using h2)) I.row ((I.same.get 5 rfl).trans g5) ((I.same.get 95 rfl).trans gl) I.gi ?_
    rintro a' w' ⟨p1, p2, p3, p4, p5⟩
    simp only [Exit.then]
    refine ⟨⟨i + 1, p1, ?_, by omega, p3, ?_, I.tch.trans p5⟩, ?_⟩
    · have s := I.same
      simp only [Same] at s p2 ⊢
      simp only [p2, s, and_self]
    · rw [ec, take_set_xor _ bs i _ (by omega) rfl] at p4; exact p4
    · rw [p3, I.gi]; simp [intOf]; omega
  · have hi' : i = bl := by have := I.le; omega
    subst hi'
    refine nlOOLeave a1 w1 I.frm _ i ((I.same.get 95 rfl).trans gl) I.gi ?_
    rintro a' w' ⟨p1, p2, rfl⟩
    simp only [Exit.then]
    have s := I.same
    have r := I.row
    rw [List.take_of_length_le (by omega), List.drop_of_length_le (by omega), List.append_nil] at r
    refine hQ _ _ ⟨p1, ?_, r, I.tch⟩
    simp only [Same] at s p2 ⊢
    simp only [p2, s, and_self]
end Go.Proofs.Ytgomodhhomekpaa

/-
  hmac.New: the key's blocks, the inner hash's first bytes.
-/
namespace Go.Proofs.Ytgomodhhomekpaa
open Go.RowKit Pu Ar
theorem rd_row {w : World} {b n : Nat} {t : TypeId} {l : By} (h : Row w b t (l.map vb)) (hn : n = l.length) (hm : l.length ≤ maxLen) : Rd w (.slice (some ⟨b, 0, none⟩) n n) l := by
  subst hn
  refine ⟨_, _, rfl, Nat.le_refl _, hm, .inr ⟨b, 0, rfl, fun i y hy => ?_⟩⟩
  rw [h.cell, Nat.zero_add, List.getElem?_map, hy]; rfl
/-- hmac.New under way: the blocks in the order in which they have been made. -/
structure NewSt (w0 w : World) (hk : Pu.HK) (hv m bo so bi si ob ip : Nat) (obs ibs lin : By) (n : Int) : Prop where
  ok : hk.ok
  hvr : Row w hv 65 [.pointer (some ⟨m, 0, none⟩)]
  mr : Row w m 95 (hmCells hk (.slice (some ⟨ob, 0, none⟩) hk.block hk.block) (.slice (some ⟨ip, 0, none⟩) hk.block hk.block) bo bi false false n)
  orow : Row w ob 5 (obs.map vb)
  irow : Row w ip 5 (ibs.map vb)
  ol : obs.length = hk.block
  il : ibs.length = hk.block
  outer : ∃ lo, HIs w hk bo so lo
  inner : HIs w hk bi si lin
  tch : Tch [] w0 w
  k0 : 0 < m
  o0 : w0.heap.size ≤ m
  o1 : m < hv
  o2 : hv < bo ∧ hv < so
  o3 : bo < bi ∧ bo < si ∧ so < bi ∧ so < si
  o4 : bi < ip ∧ si < ip
  o5 : ip < ob
theorem NewSt.tch1 {w0 w w' : World} {hk : Pu.HK} {hv m bo so bi si ob ip : Nat} {obs ibs lin : By} {n : Int} {S : List Nat} (h : NewSt w0 w hk hv m bo so bi si ob ip obs ibs lin n) (k : Tch S w w') (hS : ∀ b ∈ S, ob < b) :
    NewSt w0 w' hk hv m bo so bi si ob ip obs ibs lin n := by
  have e : ∀ b, b ≤ ob → b ∉ S := fun b hb hm => by have := hS b hm; omega
  obtain ⟨lo, ho⟩ := h.outer
  have h0 := h.k0; have h1 := h.o1; have h2 := h.o2; have h3 := h.o3; have h4 := h.o4; have h5 := h.o5; have h6 := h.o0
  refine ⟨h.ok, h.hvr.tch k (e _ (by omega)), h.mr.tch k (e _ (by omega)), h.orow.tch k (e _ (by omega)), h.irow.tch k (e _ (by omega)), h.ol, h.il, ⟨lo, ho.tch k (e _ (by omega)) (e _ (by omega)) (e _ (by omega))⟩,
    h.inner.tch k (e _ (by omega)) (e _ (by omega)) (e _ (by omega)), h.tch.new k ?_, h.k0, h.o0, h.o1, h.o2, h.o3, h.o4, h.o5⟩
  intro i hi; right; have := hS i hi; omega
theorem NewSt.out {w0 w w' : World} {hk : Pu.HK} {hv m bo so bi si ob ip : Nat} {obs ibs lin lo : By} {n : Int} (h : NewSt w0 w hk hv m bo so bi si ob ip obs ibs lin n) (k : Tch [bo, so] w w') (ho : HIs w' hk bo so lo) :
    NewSt w0 w' hk hv m bo so bi si ob ip obs ibs lin n := by
  have e : ∀ b, b ≠ bo → b ≠ so → b ∉ [bo, so] := fun b h1 h2 => by simp [h1, h2]
  have h0 := h.k0; have h1 := h.o1; have h2 := h.o2; have h3 := h.o3; have h4 := h.o4; have h5 := h.o5; have h6 := h.o0
  refine ⟨h.ok, h.hvr.tch k (e _ (by omega) (by omega)), h.mr.tch k (e _ (by omega) (by omega)), h.orow.tch k (e _ (by omega) (by omega)), h.irow.tch k (e _ (by omega) (by omega)), h.ol, h.il, ⟨lo, ho⟩,
    h.inner.tch k (e _ (by omega) (by omega)) (e _ (by omega) (by omega)) (e _ (by omega) (by omega)), h.tch.new k ?_, h.k0, h.o0, h.o1, h.o2, h.o3, h.o4, h.o5⟩
  intro i hi; right; simp only [List.mem_cons, List.not_mem_nil, or_false] at hi; omega
theorem NewSt.inn {w0 w w' : World} {hk : Pu.HK} {hv m bo so bi si ob ip : Nat} {obs ibs lin li : By} {n : Int} (h : NewSt w0 w hk hv m bo so bi si ob ip obs ibs lin n) (k : Tch [bi, si] w w') (hi : HIs w' hk bi si li) :
    NewSt w0 w' hk hv m bo so bi si ob ip obs ibs li n := by
  have e : ∀ b, b ≠ bi → b ≠ si → b ∉ [bi, si] := fun b h1 h2 => by simp [h1, h2]
  obtain ⟨lo, ho⟩ := h.outer
  have h0 := h.k0; have h1 := h.o1; have h2 := h.o2; have h3 := h.o3; have h4 := h.o4; have h5 := h.o5; have h6 := h.o0
  refine ⟨h.ok, h.hvr.tch k (e _ (by omega) (by omega)), h.mr.tch k (e _ (by omega) (by omega)), h.orow.tch k (e _ (by omega) (by omega)), h.irow.tch k (e _ (by omega) (by omega)), h.ol, h.il,
    ⟨lo, ho.tch k (e _ (by omega) (by omega)) (e _ (by omega) (by omega)) (e _ (by omega) (by omega))⟩, hi, h.tch.new k ?_, h.k0, h.o0, h.o1, h.o2, h.o3, h.o4, h.o5⟩
  intro i hi; right; simp only [List.mem_cons, List.not_mem_nil, or_false] at hi; omega
theorem NewSt.irows {w0 w w' : World} {hk : Pu.HK} {hv m bo so bi si ob ip : Nat} {obs ibs lin xs : By} {n : Int} (h : NewSt w0 w hk hv m bo so bi si ob ip obs ibs lin n) (k : Tch [ip] w w') (hi : Row w' ip 5 (xs.map vb)) (hx : xs.length = hk.block) :
    NewSt w0 w' hk hv m bo so bi si ob ip obs xs lin n := by
  have e : ∀ b, b ≠ ip → b ∉ [ip] := fun b h1 => by simp [h1]
  obtain ⟨lo, ho⟩ := h.outer
  have h0 := h.k0; have h1 := h.o1; have h2 := h.o2; have h3 := h.o3; have h4 := h.o4; have h5 := h.o5; have h6 := h.o0
  refine ⟨h.ok, h.hvr.tch k (e _ (by omega)), h.mr.tch k (e _ (by omega)), h.orow.tch k (e _ (by omega)), hi, h.ol, hx,
    ⟨lo, ho.tch k (e _ (by omega)) (e _ (by omega)) (e _ (by omega))⟩, h.inner.tch k (e _ (by omega)) (e _ (by omega)) (e _ (by omega)), h.tch.new k ?_, h.k0, h.o0, h.o1, h.o2, h.o3, h.o4, h.o5⟩
  intro i hi; right; simp only [List.mem_cons, List.not_mem_nil, or_false] at hi; omega
theorem NewSt.orows {w0 w w' : World} {hk : Pu.HK} {hv m bo so bi si ob ip : Nat} {obs ibs lin xs : By} {n : Int} (h : NewSt w0 w hk hv m bo so bi si ob ip obs ibs lin n) (k : Tch [ob] w w') (hi : Row w' ob 5 (xs.map vb)) (hx : xs.length = hk.block) :
    NewSt w0 w' hk hv m bo so bi si ob ip xs ibs lin n := by
  have e : ∀ b, b ≠ ob → b ∉ [ob] := fun b h1 => by simp [h1]
  obtain ⟨lo, ho⟩ := h.outer
  have h0 := h.k0; have h1 := h.o1; have h2 := h.o2; have h3 := h.o3; have h4 := h.o4; have h5 := h.o5; have h6 := h.o0
  refine ⟨h.ok, h.hvr.tch k (e _ (by omega)), h.mr.tch k (e _ (by omega)), hi, h.irow.tch k (e _ (by omega)), hx, h.il,
    ⟨lo, ho.tch k (e _ (by omega)) (e _ (by omega)) (e _ (by omega))⟩, h.inner.tch k (e _ (by omega)) (e _ (by omega)) (e _ (by omega)), h.tch.new k ?_, h.k0, h.o0, h.o1, h.o2, h.o3, h.o4, h.o5⟩
  intro i hi; right; simp only [List.mem_cons, List.not_mem_nil, or_false] at hi; omega
/-- What hmac.New hands back. -/
def HNE (w0 : World) (hk : Pu.HK) (key : By) (e : Ending) (w : World) : Prop :=
  ∃ F : HF, e = .returned (.pointer (some ⟨F.m, 0, none⟩)) ∧ Hid (MacAt w hk F (opad hk key) (ipad hk key) (ipad hk key) ∧ F.mar = false ∧ Tch [] w0 w ∧ (∀ b ∈ F.all, b = 0 ∨ w0.heap.size ≤ b))
theorem NewSt.mac {w0 w : World} {hk : Pu.HK} {hv m bo so bi si ob ip : Nat} {key : By} {n : Int} (h : NewSt w0 w hk hv m bo so bi si ob ip (opad hk key) (ipad hk key) (ipad hk key) n) : HNE w0 hk key (.returned (.pointer (some ⟨m, 0, none⟩))) w := by
  have h0 := h.k0; have h1 := h.o1; have h2 := h.o2; have h3 := h.o3; have h4 := h.o4; have h5 := h.o5; have h6 := h.o0
  have b64 := h.ok.block_le
  have hlo := h.orow.lt
  have hli := h.irow.lt
  have e1 := h.ol
  have e2 := h.il
  refine ⟨⟨m, bo, so, bi, si, .slice (some ⟨ob, 0, none⟩) hk.block hk.block, .slice (some ⟨ip, 0, none⟩) hk.block hk.block, false, false, n⟩, rfl, ⟨h.ok, h.mr, h.outer, h.inner, rd_row h.orow e1.symm (by unfold maxLen; omega), rd_row h.irow e2.symm (by unfold maxLen; omega),
    .inr ⟨_, _, _, _, rfl⟩, .inr ⟨_, _, _, _, rfl⟩, ?_, ?_, ?_, ?_, ?_, ?_, ?_⟩, rfl, h.tch, ?_⟩
  · intro b hb; simp only [Value.ownBlock, Option.some.injEq] at hb; omega
  · intro b hb; simp only [Value.ownBlock, Option.some.injEq] at hb; omega
  · refine ⟨?_, ?_, ?_, ?_⟩ <;> simp only [ne_eq] <;> omega
  · refine ⟨?_, ?_, ?_, ?_, ?_⟩ <;> simp only [ne_eq] <;> omega
  · refine ⟨?_, ?_, ?_, ?_⟩ <;> simp only [ne_eq] <;> omega
  · intro b hb; simp only [Value.ownBlock, Option.some.injEq] at hb; subst hb
    simp only [List.mem_cons, List.not_mem_nil, or_false]; omega
  · intro b hb; simp only [Value.ownBlock, Option.some.injEq] at hb; subst hb
    simp only [List.mem_cons, List.not_mem_nil, or_false]; omega
  · intro b hb
    simp only [HF.all, Value.ownBlock, Option.toList, List.cons_append, List.nil_append, List.mem_cons, List.not_mem_nil, or_false] at hb
    omega
theorem pad_cells (hk : Pu.HK) (key : By) : (Pu.keyOf hk key).map vb ++ List.replicate (hk.block - (Pu.keyOf hk key).length) (Value.int .u8 0) = (padKey hk key).map vb := by
  simp only [padKey, List.map_append, List.map_replicate]
  rfl
set_option maxHeartbeats 1000000 in
set_option maxRecDepth 100000 in
theorem hnTailD (a : Act) (w0 w : World) (h : Frm 121 a) (hk : Pu.HK) (hv m bo so bi si ob ip : Nat) (key : By) (vk : Value) (n : Int)
    (st : NewSt w0 w hk hv m bo so bi si ob ip (List.replicate hk.block 0) (List.replicate hk.block 0) [] n) (hr : Rd w vk (Pu.keyOf hk key)) (hoff : Off [ip, ob] vk)
    (g1 : G a 1 = vk) (g5 : G a 5 = .pointer (some ⟨hv, 0, none⟩)) :
    (part (bodyOf Try.f64) [true, true, true, true, true, true, true, true, true, true, true]).wp Try.prog (bodyPost Try.prog Try.f64 (HNE w0 hk key)) a w := by
  have b64 := st.ok.block_le
  have kl := keyOf_length st.ok key
  have c0 : w.cell? ⟨hv, 0, none⟩ = some (.pointer (some ⟨m, 0, none⟩)) := by rw [st.hvr.cell]; rfl
  have c1 : w.cell? ⟨m, 1, none⟩ = some (.slice (some ⟨ip, 0, none⟩) hk.block hk.block) := by rw [st.mr.cell]; rfl
  have e1 := mWrite hk
  have e2 := cWrite hk
  conv => arg 2; whnf
  rw [lit121 a h]
  simp only [g1, g5]
  have ST := Lib.hid st
  have HR := Lib.hid hr
  have HF := Lib.hid hoff
  have B64 := Lib.hid b64
  have KL := Lib.hid kl
  have I0 : Hid (Row w ip 5 (List.replicate hk.block (Value.int .u8 0))) := by have := st.irow; rwa [List.map_replicate] at this
  clear h g1 g5 st hr hoff b64 kl
  refine wp_seq_k (fun K1 k1 => ?_)
  have J1 := Lib.hid k1
  clear k1
  go_wp2_with (refine wpList_copy_by rfl _ _ rfl ip 0 hk.block hk.block vk (Pu.keyOf hk key) 5 (List.replicate hk.block (Value.int .u8 0)) (Pu.keyOf hk key).length (Nat.min_eq_left KL.out).symm rfl rfl HR.out I0.out (by simp) ?_)
  intro w1 h1
  have R1 := h1.out.1
  rw [pad_cells hk key] at R1
  have S1 : Hid (NewSt w0 w1 hk hv m bo so bi si ob ip (List.replicate hk.block 0) (padKey hk key) [] n) := ST.out.irows h1.out.2 R1 (padKey_length ST.out.ok key)
  have HR1 : Hid (Rd w1 vk (Pu.keyOf hk key)) := HR.out.tch h1.out.2 (off_sub HF.out (by simp))
  clear R1 h1 c0 c1 ST HR
  have c0 : w1.cell? ⟨hv, 0, none⟩ = some (.pointer (some ⟨m, 0, none⟩)) := by rw [S1.out.hvr.cell]; rfl
  have c1 : w1.cell? ⟨m, 0, none⟩ = some (.slice (some ⟨ob, 0, none⟩) hk.block hk.block) := by rw [S1.out.mr.cell]; rfl
  have O0 : Hid (Row w1 ob 5 (List.replicate hk.block (Value.int .u8 0))) := by have := S1.out.orow; rwa [List.map_replicate] at this
  go_wp2
  refine J1.out _ _ (wp_seq_k (fun K2 k2 => ?_))
  have J2 := Lib.hid k2
  clear k2
  go_wp2_with (refine wpList_copy_by rfl _ _ rfl ob 0 hk.block hk.block vk (Pu.keyOf hk key) 5 (List.replicate hk.block (Value.int .u8 0)) (Pu.keyOf hk key).length (Nat.min_eq_left KL.out).symm rfl rfl HR1.out O0.out (by simp) ?_)
  intro w2 h2
  have R2 := h2.out.1
  rw [pad_cells hk key] at R2
  have S2 : Hid (NewSt w0 w2 hk hv m bo so bi si ob ip (padKey hk key) (padKey hk key) [] n) := S1.out.orows h2.out.2 R2 (padKey_length S1.out.ok key)
  clear R2 h2 c0 c1 S1 HR1 HF I0 O0
  go_wp2
  have c0 : w2.cell? ⟨hv, 0, none⟩ = some (.pointer (some ⟨m, 0, none⟩)) := by rw [S2.out.hvr.cell]; rfl
  have c1 : w2.cell? ⟨m, 1, none⟩ = some (.slice (some ⟨ip, 0, none⟩) hk.block hk.block) := by rw [S2.out.mr.cell]; rfl
  refine J2.out _ _ (wp_seq_k (fun K3 k3 => ?_))
  have J3 := Lib.hid k3
  clear k3
  go_wp2
  have d1 : hv ≠ ip := by have := S2.out.o2; have := S2.out.o3; have := S2.out.o4; omega
  have d2 : m ≠ ip := by have := S2.out.o1; have := S2.out.o2; have := S2.out.o3; have := S2.out.o4; omega
  refine nlDILoop _ w2 ⟨rfl, rfl⟩ _ hv m ip hk.block (padKey hk key) (padKey_length S2.out.ok key) B64.out c0 c1 S2.out.irow d1 d2 rfl rfl rfl ?_
  rintro a3 w3 ⟨f3, s3, r3, t3⟩
  have S3 : Hid (NewSt w0 w3 hk hv m bo so bi si ob ip (padKey hk key) (ipad hk key) [] n) := S2.out.irows t3 r3 (ipad_length S2.out.ok key)
  have g1 : G a3 1 = vk := s3.get 1 rfl
  have g5 : G a3 5 = .pointer (some ⟨hv, 0, none⟩) := s3.get 5 rfl
  rw [lit121 a3 f3]
  simp only [g1, g5]
  clear f3 s3 r3 t3 c0 c1 S2 g1 g5 d1 d2
  go_wp2
  have c0 : w3.cell? ⟨hv, 0, none⟩ = some (.pointer (some ⟨m, 0, none⟩)) := by rw [S3.out.hvr.cell]; rfl
  have c1 : w3.cell? ⟨m, 0, none⟩ = some (.slice (some ⟨ob, 0, none⟩) hk.block hk.block) := by rw [S3.out.mr.cell]; rfl
  refine J3.out _ _ (wp_seq_k (fun K4 k4 => ?_))
  have J4 := Lib.hid k4
  clear k4
  go_wp2
  have d1 : hv ≠ ob := by have := S3.out.o2; have := S3.out.o3; have := S3.out.o4; have := S3.out.o5; omega
  have d2 : m ≠ ob := by have := S3.out.o1; have := S3.out.o2; have := S3.out.o3; have := S3.out.o4; have := S3.out.o5; omega
  refine nlDOLoop _ w3 ⟨rfl, rfl⟩ _ hv m ob hk.block (padKey hk key) (padKey_length S3.out.ok key) B64.out c0 c1 S3.out.orow d1 d2 rfl rfl rfl ?_
  rintro a4 w4 ⟨f4, s4, r4, t4⟩
  have S4 : Hid (NewSt w0 w4 hk hv m bo so bi si ob ip (opad hk key) (ipad hk key) [] n) := S3.out.orows t4 r4 (opad_length S3.out.ok key)
  have g5 : G a4 5 = .pointer (some ⟨hv, 0, none⟩) := s4.get 5 rfl
  rw [lit121 a4 f4]
  simp only [g5]
  clear f4 s4 r4 t4 c0 c1 S3 g5 d1 d2
  go_wp2
  have c0 : w4.cell? ⟨hv, 0, none⟩ = some (.pointer (some ⟨m, 0, none⟩)) := by rw [S4.out.hvr.cell]; rfl
  have c1 : w4.cell? ⟨m, 1, none⟩ = some (.slice (some ⟨ip, 0, none⟩) hk.block hk.block) := by rw [S4.out.mr.cell]; rfl
  have c3 : w4.cell? ⟨m, 3, none⟩ = some (.iface (hT hk) (.pointer (some ⟨bi, 0, none⟩))) := by rw [S4.out.mr.cell]; rfl
  refine J4.out _ _ (wp_seq_k (fun K5 k5 => ?_))
  have J5 := Lib.hid k5
  clear k5
  refine wp_region_quiet_tail 10 (by kernel_rfl) (by kernel_rfl) ?_
  simp only [List.take_succ_cons, List.take_zero, List.drop_succ_cons, List.drop_zero]
  repeat (go_big_quiet_step (fail))
  refine wpQuiet_nil ?_
  go_wp2_with (fail)
  have S5 : Hid (NewSt w0 w4.drew hk hv m bo so bi si ob ip (opad hk key) (ipad hk key) [] n) := S4.out.tch1 (Tch.drewN (S := []) w4 1) (by simp)
  have rd5 : Rd w4.drew (.slice (some ⟨ip, 0, none⟩) hk.block hk.block) (ipad hk key) := rd_row S5.out.irow (ipad_length S5.out.ok key).symm (by rw [ipad_length S5.out.ok key]; have := B64.out; unfold maxLen; omega)
  have of5 : Off [bi, si] (.slice (some ⟨ip, 0, none⟩) hk.block hk.block) := by
    intro b hb; simp only [Value.ownBlock, Option.some.injEq] at hb; subst hb
    have := S5.out.o4; simp only [List.mem_cons, List.not_mem_nil, or_false]; omega
  refine (hWrite hk bi si [] (ipad hk key) _ w4.drew S5.out.inner rd5 (.inr ⟨_, _, _, _, rfl⟩) of5 (by rw [List.nil_append, ipad_length S5.out.ok key]; have := B64.out; omega)).mono ?_
  rintro e w6 ⟨rfl, h6⟩
  have S6 : Hid (NewSt w0 w6 hk hv m bo so bi si ob ip (opad hk key) (ipad hk key) (ipad hk key) n) := S5.out.inn h6.out.2 h6.out.1
  clear h6 S5 S4 rd5 of5 c0 c1 c3
  have c0 : w6.cell? ⟨hv, 0, none⟩ = some (.pointer (some ⟨m, 0, none⟩)) := by rw [S6.out.hvr.cell]; rfl
  go_wp2
  refine J5.out _ _ ?_
  go_wp2
  go_ret
  exact S6.out.mac
set_option maxHeartbeats 1000000 in
set_option maxRecDepth 100000 in
theorem hnTailO (a : Act) (w0 w : World) (h : Frm 121 a) (hk : Pu.HK) (hv m bo so bi si ob ip : Nat) (key : By) (vk : Value) (n : Int)
    (st : NewSt w0 w hk hv m bo so bi si ob ip (List.replicate hk.block 0) (List.replicate hk.block 0) [] n) (hr : Rd w vk (Pu.keyOf hk key)) (hoff : Off [ip, ob] vk)
    (g1 : G a 1 = vk) (g5 : G a 5 = .pointer (some ⟨hv, 0, none⟩)) :
    (part (bodyOf Try.f65) [true, true, true, true, true, true, true, true, true, true, true]).wp Try.prog (bodyPost Try.prog Try.f65 (HNE w0 hk key)) a w := by
  have b64 := st.ok.block_le
  have kl := keyOf_length st.ok key
  have c0 : w.cell? ⟨hv, 0, none⟩ = some (.pointer (some ⟨m, 0, none⟩)) := by rw [st.hvr.cell]; rfl
  have c1 : w.cell? ⟨m, 1, none⟩ = some (.slice (some ⟨ip, 0, none⟩) hk.block hk.block) := by rw [st.mr.cell]; rfl
  have e1 := mWrite hk
  have e2 := cWrite hk
  conv => arg 2; whnf
  rw [lit121 a h]
  simp only [g1, g5]
  have ST := Lib.hid st
  have HR := Lib.hid hr
  have HF := Lib.hid hoff
  have B64 := Lib.hid b64
  have KL := Lib.hid kl
  have I0 : Hid (Row w ip 5 (List.replicate hk.block (Value.int .u8 0))) := by have := st.irow; rwa [List.map_replicate] at this
  clear h g1 g5 st hr hoff b64 kl
  refine wp_seq_k (fun K1 k1 => ?_)
  have J1 := Lib.hid k1
  clear k1
  go_wp2_with (refine wpList_copy_by rfl _ _ rfl ip 0 hk.block hk.block vk (Pu.keyOf hk key) 5 (List.replicate hk.block (Value.int .u8 0)) (Pu.keyOf hk key).length (Nat.min_eq_left KL.out).symm rfl rfl HR.out I0.out (by simp) ?_)
  intro w1 h1
  have R1 := h1.out.1
  rw [pad_cells hk key] at R1
  have S1 : Hid (NewSt w0 w1 hk hv m bo so bi si ob ip (List.replicate hk.block 0) (padKey hk key) [] n) := ST.out.irows h1.out.2 R1 (padKey_length ST.out.ok key)
  have HR1 : Hid (Rd w1 vk (Pu.keyOf hk key)) := HR.out.tch h1.out.2 (off_sub HF.out (by simp))
  clear R1 h1 c0 c1 ST HR
  have c0 : w1.cell? ⟨hv, 0, none⟩ = some (.pointer (some ⟨m, 0, none⟩)) := by rw [S1.out.hvr.cell]; rfl
  have c1 : w1.cell? ⟨m, 0, none⟩ = some (.slice (some ⟨ob, 0, none⟩) hk.block hk.block) := by rw [S1.out.mr.cell]; rfl
  have O0 : Hid (Row w1 ob 5 (List.replicate hk.block (Value.int .u8 0))) := by have := S1.out.orow; rwa [List.map_replicate] at this
  go_wp2
  refine J1.out _ _ (wp_seq_k (fun K2 k2 => ?_))
  have J2 := Lib.hid k2
  clear k2
  go_wp2_with (refine wpList_copy_by rfl _ _ rfl ob 0 hk.block hk.block vk (Pu.keyOf hk key) 5 (List.replicate hk.block (Value.int .u8 0)) (Pu.keyOf hk key).length (Nat.min_eq_left KL.out).symm rfl rfl HR1.out O0.out (by simp) ?_)
  intro w2 h2
  have R2 := h2.out.1
  rw [pad_cells hk key] at R2
  have S2 : Hid (NewSt w0 w2 hk hv m bo so bi si ob ip (padKey hk key) (padKey hk key) [] n) := S1.out.orows h2.out.2 R2 (padKey_length S1.out.ok key)
  clear R2 h2 c0 c1 S1 HR1 HF I0 O0
  go_wp2
  have c0 : w2.cell? ⟨hv, 0, none⟩ = some (.pointer (some ⟨m, 0, none⟩)) := by rw [S2.out.hvr.cell]; rfl
  have c1 : w2.cell? ⟨m, 1, none⟩ = some (.slice (some ⟨ip, 0, none⟩) hk.block hk.block) := by rw [S2.out.mr.cell]; rfl
  refine J2.out _ _ (wp_seq_k (fun K3 k3 => ?_))
  have J3 := Lib.hid k3
  clear k3
  go_wp2
  have d1 : hv ≠ ip := by have := S2.out.o2; have := S2.out.o3; have := S2.out.o4; omega
  have d2 : m ≠ ip := by have := S2.out.o1; have := S2.out.o2; have := S2.out.o3; have := S2.out.o4; omega
  refine nlOILoop _ w2 ⟨rfl, rfl⟩ _ hv m ip hk.block (padKey hk key) (padKey_length S2.out.ok key) B64.out c0 c1 S2.out.irow d1 d2 rfl rfl rfl ?_
  rintro a3 w3 ⟨f3, s3, r3, t3⟩
  have S3 : Hid (NewSt w0 w3 hk hv m bo so bi si ob ip (padKey hk key) (ipad hk key) [] n) := S2.out.irows t3 r3 (ipad_length S2.out.ok key)
  have g1 : G a3 1 = vk := s3.get 1 rfl
  have g5 : G a3 5 = .pointer (some ⟨hv, 0, none⟩) := s3.get 5 rfl
  rw [lit121 a3 f3]
  simp only [g1, g5]
  clear f3 s3 r3 t3 c0 c1 S2 g1 g5 d1 d2
  go_wp2
  have c0 : w3.cell? ⟨hv, 0, none⟩ = some (.pointer (some ⟨m, 0, none⟩)) := by rw [S3.out.hvr.cell]; rfl
  have c1 : w3.cell? ⟨m, 0, none⟩ = some (.slice (some ⟨ob, 0, none⟩) hk.block hk.block) := by rw [S3.out.mr.cell]; rfl
  refine J3.out _ _ (wp_seq_k (fun K4 k4 => ?_))
  have J4 := Lib.hid k4
  clear k4
  go_wp2
  have d1 : hv ≠ ob := by have := S3.out.o2; have := S3.out.o3; have := S3.out.o4; have := S3.out.o5; omega
  have d2 : m ≠ ob := by have := S3.out.o1; have := S3.out.o2; have := S3.out.o3; have := S3.out.o4; have := S3.out.o5; omega
  refine nlOOLoop _ w3 ⟨rfl, rfl⟩ _ hv m ob hk.block (padKey hk key) (padKey_length S3.out.ok key) B64.out c0 c1 S3.out.orow d1 d2 rfl rfl rfl ?_
  rintro a4 w4 ⟨f4, s4, r4, t4⟩
  have S4 : Hid (NewSt w0 w4 hk hv m bo so bi si ob ip (opad hk key) (ipad hk key) [] n) := S3.out.orows t4 r4 (opad_length S3.out.ok key)
  have g5 : G a4 5 = .pointer (some ⟨hv, 0, none⟩) := s4.get 5 rfl
  rw [lit121 a4 f4]
  simp only [g5]
  clear f4 s4 r4 t4 c0 c1 S3 g5 d1 d2
  go_wp2
  have c0 : w4.cell? ⟨hv, 0, none⟩ = some (.pointer (some ⟨m, 0, none⟩)) := by rw [S4.out.hvr.cell]; rfl
  have c1 : w4.cell? ⟨m, 1, none⟩ = some (.slice (some ⟨ip, 0, none⟩) hk.block hk.block) := by rw [S4.out.mr.cell]; rfl
  have c3 : w4.cell? ⟨m, 3, none⟩ = some (.iface (hT hk) (.pointer (some ⟨bi, 0, none⟩))) := by rw [S4.out.mr.cell]; rfl
  refine J4.out _ _ (wp_seq_k (fun K5 k5 => ?_))
  have J5 := Lib.hid k5
  clear k5
  refine wp_region_quiet_tail 10 (by kernel_rfl) (by kernel_rfl) ?_
  simp only [List.take_succ_cons, List.take_zero, List.drop_succ_cons, List.drop_zero]
  repeat (go_big_quiet_step (fail))
  refine wpQuiet_nil ?_
  go_wp2_with (fail)
  have S5 : Hid (NewSt w0 w4.drew hk hv m bo so bi si ob ip (opad hk key) (ipad hk key) [] n) := S4.out.tch1 (Tch.drewN (S := []) w4 1) (by simp)
  have rd5 : Rd w4.drew (.slice (some ⟨ip, 0, none⟩) hk.block hk.block) (ipad hk key) := rd_row S5.out.irow (ipad_length S5.out.ok key).symm (by rw [ipad_length S5.out.ok key]; have := B64.out; unfold maxLen; omega)
  have of5 : Off [bi, si] (.slice (some ⟨ip, 0, none⟩) hk.block hk.block) := by
    intro b hb; simp only [Value.ownBlock, Option.some.injEq] at hb; subst hb
    have := S5.out.o4; simp only [List.mem_cons, List.not_mem_nil, or_false]; omega
  refine (hWrite hk bi si [] (ipad hk key) _ w4.drew S5.out.inner rd5 (.inr ⟨_, _, _, _, rfl⟩) of5 (by rw [List.nil_append, ipad_length S5.out.ok key]; have := B64.out; omega)).mono ?_
  rintro e w6 ⟨rfl, h6⟩
  have S6 : Hid (NewSt w0 w6 hk hv m bo so bi si ob ip (opad hk key) (ipad hk key) (ipad hk key) n) := S5.out.inn h6.out.2 h6.out.1
  clear h6 S5 S4 rd5 of5 c0 c1 c3
  have c0 : w6.cell? ⟨hv, 0, none⟩ = some (.pointer (some ⟨m, 0, none⟩)) := by rw [S6.out.hvr.cell]; rfl
  go_wp2
  refine J5.out _ _ ?_
  go_wp2
  go_ret
  exact S6.out.mac
end Go.Proofs.Ytgomodhhomekpaa

/-
  hmac.New: a key that is longer than a block is hashed.
-/
namespace Go.Proofs.Ytgomodhhomekpaa
open Go.RowKit Pu Ar
theorem NewSt.big {w0 w : World} {hk : Pu.HK} {hv m bo so bi si ob ip : Nat} {obs ibs lin : By} {n : Int} (h : NewSt w0 w hk hv m bo so bi si ob ip obs ibs lin n) : ob < w.heap.size ∧ w0.heap.size ≤ bo ∧ w0.heap.size ≤ so ∧ w0.heap.size ≤ ip ∧ w0.heap.size ≤ ob := by
  have h0 := h.k0; have h1 := h.o1; have h2 := h.o2; have h3 := h.o3; have h4 := h.o4; have h5 := h.o5; have h6 := h.o0
  exact ⟨h.orow.lt, by omega, by omega, by omega, by omega⟩
set_option maxHeartbeats 1000000 in
set_option maxRecDepth 100000 in
theorem hnKeyD (a : Act) (w0 w : World) (h : Frm 121 a) (hk : Pu.HK) (hv m bo so bi si ob ip : Nat) (key : By) (v : Value) (n : Int)
    (st : NewSt w0 w hk hv m bo so bi si ob ip (List.replicate hk.block 0) (List.replicate hk.block 0) [] n) (ho : HIs w hk bo so []) (hr : Rd w v key) (hnm : Nm v) (hlt : ∀ b, v.ownBlock = some b → b < w0.heap.size) (hkl : key.length ≤ 1099511627776)
    (g1 : G a 1 = v) (g5 : G a 5 = .pointer (some ⟨hv, 0, none⟩)) (g7 : G a 7 = .int .i64 hk.block) :
    (part (bodyOf Try.f64) [true, true, true, true, true, true, true, true, true, true]).wp Try.prog (bodyPost Try.prog Try.f64 (HNE w0 hk key)) a w := by
  obtain ⟨vp, vc, rfl, _, _, _⟩ := id hr
  have off1 : Off [ip, ob] (.slice vp key.length vc) := by
    intro b hb hm; have := hlt b hb; have := st.big; simp only [List.mem_cons, List.not_mem_nil, or_false] at hm; omega
  have off2 : Off [bo, so] (.slice vp key.length vc) := by
    intro b hb hm; have := hlt b hb; have := st.big; simp only [List.mem_cons, List.not_mem_nil, or_false] at hm; omega
  have c0 : w.cell? ⟨hv, 0, none⟩ = some (.pointer (some ⟨m, 0, none⟩)) := by rw [st.hvr.cell]; rfl
  have c2 : w.cell? ⟨m, 2, none⟩ = some (.iface (hT hk) (.pointer (some ⟨bo, 0, none⟩))) := by rw [st.mr.cell]; rfl
  have e1 := mWrite hk
  have e2 := cWrite hk
  have e3 := mSum hk
  have e4 := cSum hk
  conv => arg 2; whnf
  rw [lit121 a h]
  simp only [g1, g5, g7]
  have ST := Lib.hid st
  have HO := Lib.hid ho
  have HR := Lib.hid hr
  have OFF1 := Lib.hid off1
  have OFF2 := Lib.hid off2
  have HNM := Lib.hid hnm
  have HKL := Lib.hid hkl
  clear h g1 g5 g7 st ho hr off1 off2 hlt hnm hkl
  refine wp_seq_k (fun K1 k1 => ?_)
  have J1 := Lib.hid k1
  clear k1
  by_cases hlen : hk.block < key.length
  · have hki : (hk.block : Int) < key.length := by exact_mod_cast hlen
    have HKK : Hid (Pu.keyOf hk key = hk.hash key) := by unfold Pu.keyOf; rw [if_pos hlen]; rfl
    clear hlen
    go_wp2_with (fail)
    refine (hWrite hk bo so [] key _ w HO.out HR.out HNM.out OFF2.out (by rw [List.nil_append]; exact HKL.out)).mono ?_
    rintro e w1 ⟨rfl, h1⟩
    have S1 : Hid (NewSt w0 w1 hk hv m bo so bi si ob ip (List.replicate hk.block 0) (List.replicate hk.block 0) [] n) := ST.out.out h1.out.2 h1.out.1
    have HO1 : Hid (HIs w1 hk bo so key) := h1.out.1
    clear h1 c0 c2 ST HO HR
    have c0 : w1.cell? ⟨hv, 0, none⟩ = some (.pointer (some ⟨m, 0, none⟩)) := by rw [S1.out.hvr.cell]; rfl
    have c2 : w1.cell? ⟨m, 2, none⟩ = some (.iface (hT hk) (.pointer (some ⟨bo, 0, none⟩))) := by rw [S1.out.mr.cell]; rfl
    go_wp2_with (fail)
    refine (hSum hk bo so key [] (.slice none 0 0) w1 HO1.out (Own.nil _) (by intro b hb; cases hb) HKL.out (by simp)).mono ?_
    rintro e w2 ⟨v2, rfl, h2⟩
    have off2 : Off [ip, ob] v2 := h2.out.fresh (by
      intro b hb; have := S1.out.big; have := S1.out.o5; simp only [List.mem_cons, List.not_mem_nil, or_false] at hb; omega)
    have S2 : Hid (NewSt w0 w2 hk hv m bo so bi si ob ip (List.replicate hk.block 0) (List.replicate hk.block 0) [] n) := S1.out.tch1 h2.out.tchNil (by simp)
    have OFF2 := Lib.hid off2
    have RD2 : Hid (Rd w2 v2 (Pu.keyOf hk key)) := by rw [HKK.out]; exact h2.out.1.rd
    clear h2 off2 S1 HO1 c0 c2
    go_wp2
    refine J1.out _ _ ?_
    exact hnTailD _ w0 w2 ⟨rfl, rfl⟩ hk hv m bo so bi si ob ip key _ n S2.out RD2.out OFF2.out rfl rfl
  · have hki : ¬ (hk.block : Int) < key.length := by omega
    have HKK : Hid (Pu.keyOf hk key = key) := by unfold Pu.keyOf; rw [if_neg hlen]; rfl
    clear hlen
    go_wp2
    refine J1.out _ _ ?_
    exact hnTailD _ w0 w ⟨rfl, rfl⟩ hk hv m bo so bi si ob ip key _ n ST.out (by rw [HKK.out]; exact HR.out) OFF1.out rfl rfl
set_option maxHeartbeats 1000000 in
set_option maxRecDepth 100000 in
theorem hnKeyO (a : Act) (w0 w : World) (h : Frm 121 a) (hk : Pu.HK) (hv m bo so bi si ob ip : Nat) (key : By) (v : Value) (n : Int)
    (st : NewSt w0 w hk hv m bo so bi si ob ip (List.replicate hk.block 0) (List.replicate hk.block 0) [] n) (ho : HIs w hk bo so []) (hr : Rd w v key) (hnm : Nm v) (hlt : ∀ b, v.ownBlock = some b → b < w0.heap.size) (hkl : key.length ≤ 1099511627776)
    (g1 : G a 1 = v) (g5 : G a 5 = .pointer (some ⟨hv, 0, none⟩)) (g7 : G a 7 = .int .i64 hk.block) :
    (part (bodyOf Try.f65) [true, true, true, true, true, true, true, true, true, true]).wp Try.prog (bodyPost Try.prog Try.f65 (HNE w0 hk key)) a w := by
  obtain ⟨vp, vc, rfl, _, _, _⟩ := id hr
  have off1 : Off [ip, ob] (.slice vp key.length vc) := by
    intro b hb hm; have := hlt b hb; have := st.big; simp only [List.mem_cons, List.not_mem_nil, or_false] at hm; omega
  have off2 : Off [bo, so] (.slice vp key.length vc) := by
    intro b hb hm; have := hlt b hb; have := st.big; simp only [List.mem_cons, List.not_mem_nil, or_false] at hm; omega
  have c0 : w.cell? ⟨hv, 0, none⟩ = some (.pointer (some ⟨m, 0, none⟩)) := by rw [st.hvr.cell]; rfl
  have c2 : w.cell? ⟨m, 2, none⟩ = some (.iface (hT hk) (.pointer (some ⟨bo, 0, none⟩))) := by rw [st.mr.cell]; rfl
  have e1 := mWrite hk
  have e2 := cWrite hk
  have e3 := mSum hk
  have e4 := cSum hk
  conv => arg 2; whnf
  rw [lit121 a h]
  simp only [g1, g5, g7]
  have ST := Lib.hid st
  have HO := Lib.hid ho
  have HR := Lib.hid hr
  have OFF1 := Lib.hid off1
  have OFF2 := Lib.hid off2
  have HNM := Lib.hid hnm
  have HKL := Lib.hid hkl
  clear h g1 g5 g7 st ho hr off1 off2 hlt hnm hkl
  refine wp_seq_k (fun K1 k1 => ?_)
  have J1 := Lib.hid k1
  clear k1
  by_cases hlen : hk.block < key.length
  · have hki : (hk.block : Int) < key.length := by exact_mod_cast hlen
    have HKK : Hid (Pu.keyOf hk key = hk.hash key) := by unfold Pu.keyOf; rw [if_pos hlen]; rfl
    clear hlen
    go_wp2_with (fail)
    refine (hWrite hk bo so [] key _ w HO.out HR.out HNM.out OFF2.out (by rw [List.nil_append]; exact HKL.out)).mono ?_
    rintro e w1 ⟨rfl, h1⟩
    have S1 : Hid (NewSt w0 w1 hk hv m bo so bi si ob ip (List.replicate hk.block 0) (List.replicate hk.block 0) [] n) := ST.out.out h1.out.2 h1.out.1
    have HO1 : Hid (HIs w1 hk bo so key) := h1.out.1
    clear h1 c0 c2 ST HO HR
    have c0 : w1.cell? ⟨hv, 0, none⟩ = some (.pointer (some ⟨m, 0, none⟩)) := by rw [S1.out.hvr.cell]; rfl
    have c2 : w1.cell? ⟨m, 2, none⟩ = some (.iface (hT hk) (.pointer (some ⟨bo, 0, none⟩))) := by rw [S1.out.mr.cell]; rfl
    go_wp2_with (fail)
    refine (hSum hk bo so key [] (.slice none 0 0) w1 HO1.out (Own.nil _) (by intro b hb; cases hb) HKL.out (by simp)).mono ?_
    rintro e w2 ⟨v2, rfl, h2⟩
    have off2 : Off [ip, ob] v2 := h2.out.fresh (by
      intro b hb; have := S1.out.big; have := S1.out.o5; simp only [List.mem_cons, List.not_mem_nil, or_false] at hb; omega)
    have S2 : Hid (NewSt w0 w2 hk hv m bo so bi si ob ip (List.replicate hk.block 0) (List.replicate hk.block 0) [] n) := S1.out.tch1 h2.out.tchNil (by simp)
    have OFF2 := Lib.hid off2
    have RD2 : Hid (Rd w2 v2 (Pu.keyOf hk key)) := by rw [HKK.out]; exact h2.out.1.rd
    clear h2 off2 S1 HO1 c0 c2
    go_wp2
    refine J1.out _ _ ?_
    exact hnTailO _ w0 w2 ⟨rfl, rfl⟩ hk hv m bo so bi si ob ip key _ n S2.out RD2.out OFF2.out rfl rfl
  · have hki : ¬ (hk.block : Int) < key.length := by omega
    have HKK : Hid (Pu.keyOf hk key = key) := by unfold Pu.keyOf; rw [if_neg hlen]; rfl
    clear hlen
    go_wp2
    refine J1.out _ _ ?_
    exact hnTailO _ w0 w ⟨rfl, rfl⟩ hk hv m bo so bi si ob ip key _ n ST.out (by rw [HKK.out]; exact HR.out) OFF1.out rfl rfl
end Go.Proofs.Ytgomodhhomekpaa

/-
  hmac.New, whole.
-/
namespace Go.Proofs.Ytgomodhhomekpaa
open Go.RowKit Pu Ar
/-- What the making of a hash hands back. -/
def NewH (hk : Pu.HK) (w : World) (e : Ending) (w' : World) : Prop :=
  ∃ b sb, e = .returned (.pointer (some ⟨b, 0, none⟩)) ∧ Hid (HIs w' hk b sb [] ∧ Tch [] w w' ∧ w.heap.size ≤ b ∧ w.heap.size ≤ sb)
theorem newD (kt : List UInt32) (w : World) (hK : KIs w kt) : Calls Try.prog 49 #[] w (NewH (.sha kt) w) := by
  refine (digNew kt w).mono ?_
  rintro e w' ⟨rfl, h⟩
  exact ⟨_, _, rfl, ⟨hK.tch h.out.2.1 (by simp), h.out.1, rfl⟩, h.out.2.1, Nat.le_refl _, Nat.le_refl _⟩
theorem newO (k s bl : Int) (w : World) : Calls Try.prog 51 #[.agg #[.int .i64 k, .int .i64 s, .int .i64 bl]] w (NewH (.own (szOf s bl) (blOf s bl)) w) := by
  refine (ownFresh k s bl w).mono ?_
  rintro e w' ⟨b, sb, rfl, h⟩
  exact ⟨b, sb, rfl, h.out.1, h.out.2⟩
theorem rowD {w : World} {kt : List UInt32} {b sb : Nat} {l : By} (h : HIs w (.sha kt) b sb l) : ∃ x, Row w b 104 x := by
  obtain ⟨_, ⟨_, x, hd, _⟩, _⟩ := h
  exact ⟨_, hd.row⟩
theorem rowO {w : World} {s bl b sb : Nat} {l : By} (h : HIs w (.own s bl) b sb l) : ∃ x, Row w b 106 x := ⟨_, OwnAt.row h⟩
theorem own_ok (s bl : Int) : (Pu.HK.own (szOf s bl) (blOf s bl)).ok := by
  have h := kindOf_ok [] 0 s bl
  rwa [bad_kind [] 0 s bl (by omega)] at h
set_option maxHeartbeats 2000000 in
set_option maxRecDepth 100000 in
theorem hmNewD (kt : List UInt32) (key : By) (v : Value) (w : World) (hK : KIs w kt) (hr : Rd w v key) (hnm : Nm v) (hlt : ∀ b, v.ownBlock = some b → b < w.heap.size) (hkl : key.length ≤ 1099511627776) :
    Calls Try.prog 64 #[(.func (.func 49) #[] #[]), v] w (HNE w (Pu.HK.sha kt) key) := by
  obtain ⟨vp, vc, rfl, _, _, _⟩ := id hr
  have HK := Lib.hid hK
  have HR := Lib.hid hr
  have HNM := Lib.hid hnm
  have HLT := Lib.hid hlt
  have HKL := Lib.hid hkl
  clear hK hr hnm hlt hkl
  go_enter Try.func64, Try.ntmps64
  refine wp_seq_k (fun K0 k0 => ?_)
  have J0 := Lib.hid k0
  clear k0
  go_wp2
  refine J0.out _ _ (wp_seq_k (fun K1 k1 => ?_))
  have J1 := Lib.hid k1
  clear k1
  go_wp2
  generalize hW2 : World.alloc _ _ = W2
  have RM : Hid (Row W2 w.heap.size 95 [.slice none 0 0, .slice none 0 0, .nilIface, .nilIface, .bool false, .bool false, .int .i64 key.length]) := by rw [← hW2]; exact (Row.new w 95 _).alloc _
  have RH : Hid (Row W2 (w.heap.size + 1) 65 [.pointer (some ⟨w.heap.size, 0, none⟩)]) := by
    rw [← hW2]
    have := Row.new (w.alloc (.cells #[.slice none 0 0, .slice none 0 0, .nilIface, .nilIface, .bool false, .bool false, .int .i64 key.length] 95)) 65 [.pointer (some ⟨w.heap.size, 0, none⟩)]
    rwa [World.size_alloc] at this
  have T2 : Hid (Tch [] w W2) := by rw [← hW2]; exact (Tch.alloc _ _).trans (Tch.alloc _ _)
  clear hW2
  obtain ⟨m, hm⟩ : ∃ m, m = w.heap.size := ⟨_, rfl⟩
  obtain ⟨hv, hhv⟩ : ∃ hv, hv = w.heap.size + 1 := ⟨_, rfl⟩
  rw [← hhv] at RH ⊢
  rw [← hm] at RM RH ⊢
  have hmh : m < hv := by omega
  have HMH := Lib.hid hmh
  have HMW := Lib.hid hm
  clear hm hhv
  have c0 : W2.cell? ⟨hv, 0, none⟩ = some (.pointer (some ⟨m, 0, none⟩)) := by rw [RH.out.cell]; rfl
  refine J1.out _ _ (wp_seq_k (fun K2 k2 => ?_))
  have J2 := Lib.hid k2
  clear k2
  go_region_held3 (fun w' => w'.cell? ⟨hv, 0, none⟩ = some (.pointer (some ⟨m, 0, none⟩))) (first | exact c0 | assumption | (rw [World.cell?_setCell_other _ _ _ _ (by intro h; simp only [Addr.mk.injEq] at h; omega)]; assumption)) (first | (go_at_call 49; refine (newD kt _ (HK.out.tch (T2.out.trans (Tch.drewN W2 1)) (by simp))).mono ?_; rintro e w3 ⟨bo, so, rfl, h3⟩; have c0' : w3.cell? ⟨hv, 0, none⟩ = some (.pointer (some ⟨m, 0, none⟩)) := h3.out.2.1.cell c0 (by simp); have c2' : w3.cell? ⟨m, 2, none⟩ = some .nilIface := by { rw [(RM.out.tch ((Tch.drewN (S := []) W2 1).trans h3.out.2.1) (by simp)).cell]; rfl }; have f2' : w3.frozen? ⟨m, 2, none⟩ = false := (RM.out.tch ((Tch.drewN (S := []) W2 1).trans h3.out.2.1) (by simp)).free 2))
  have hKm : 0 < m := by rw [HMW.out]; exact HK.out.2.lt
  have HKM := Lib.hid hKm
  have B3 : Hid (hv < bo ∧ hv < so) := by
    have h1 := RH.out.lt
    have h2 : W2.heap.size ≤ bo := h3.out.2.2.1
    have h4 : W2.heap.size ≤ so := h3.out.2.2.2
    exact ⟨by omega, by omega⟩
  generalize hW4 : World.setCell _ _ _ = W4
  have k4 : Tch [m] w3 W4 := by rw [← hW4]; exact Tch.setCell _ _ _ (by simp)
  have RM4 : Hid (Row W4 m 95 [.slice none 0 0, .slice none 0 0, .iface 74 (.pointer (some ⟨bo, 0, none⟩)), .nilIface, .bool false, .bool false, .int .i64 key.length]) := by
    rw [← hW4]; exact (RM.out.tch ((Tch.drewN (S := []) W2 1).trans h3.out.2.1) (by simp)).set 2 _
  have RH4 : Hid (Row W4 hv 65 [.pointer (some ⟨m, 0, none⟩)]) := (RH.out.tch ((Tch.drewN (S := []) W2 1).trans h3.out.2.1) (by simp)).tch k4 (by simp only [List.mem_singleton]; omega)
  have T4 : Hid (Tch [] w W4) := (T2.out.trans ((Tch.drewN (S := []) W2 1).trans h3.out.2.1)).new k4 (by intro i hi; right; rw [List.mem_singleton.1 hi, HMW.out]; exact Nat.le_refl _)
  have HO4 : Hid (HIs W4 (Pu.HK.sha kt) bo so []) := by
    have := B3.out
    exact h3.out.1.tch k4 (by simp only [List.mem_singleton]; omega) (by simp only [List.mem_singleton]; omega) (by simp only [List.mem_singleton]; omega)
  clear hW4 k4 h3 c0 c0' c2' f2' RM RH T2 hKm
  have c0 : W4.cell? ⟨hv, 0, none⟩ = some (.pointer (some ⟨m, 0, none⟩)) := by rw [RH4.out.cell]; rfl
  go_wp2
  refine J2.out _ _ (wp_seq_k (fun K3 k3 => ?_))
  have J3 := Lib.hid k3
  clear k3
  go_region_held3 (fun w' => w'.cell? ⟨hv, 0, none⟩ = some (.pointer (some ⟨m, 0, none⟩))) (first | exact c0 | assumption | (rw [World.cell?_setCell_other _ _ _ _ (by intro h; simp only [Addr.mk.injEq] at h; omega)]; assumption)) (first | (go_at_call 49; refine (newD kt _ (HK.out.tch (T4.out.trans (Tch.drewN W4 1)) (by simp))).mono ?_; rintro e w5 ⟨bi, si, rfl, h5⟩; have c0' : w5.cell? ⟨hv, 0, none⟩ = some (.pointer (some ⟨m, 0, none⟩)) := h5.out.2.1.cell c0 (by simp); have c3' : w5.cell? ⟨m, 3, none⟩ = some .nilIface := by { rw [(RM4.out.tch ((Tch.drewN (S := []) W4 1).trans h5.out.2.1) (by simp)).cell]; rfl }; have f3' : w5.frozen? ⟨m, 3, none⟩ = false := (RM4.out.tch ((Tch.drewN (S := []) W4 1).trans h5.out.2.1) (by simp)).free 3))
  have B5 : Hid (bo < bi ∧ bo < si ∧ so < bi ∧ so < si) := by
    have h1 := HO4.out.lt
    have h2 : W4.heap.size ≤ bi := h5.out.2.2.1
    have h4 : W4.heap.size ≤ si := h5.out.2.2.2
    exact ⟨by omega, by omega, by omega, by omega⟩
  generalize hW6 : World.setCell _ _ _ = W6
  have k6 : Tch [m] w5 W6 := by rw [← hW6]; exact Tch.setCell _ _ _ (by simp)
  have RM6 : Hid (Row W6 m 95 [.slice none 0 0, .slice none 0 0, .iface 74 (.pointer (some ⟨bo, 0, none⟩)), .iface 74 (.pointer (some ⟨bi, 0, none⟩)), .bool false, .bool false, .int .i64 key.length]) := by
    rw [← hW6]; exact (RM4.out.tch ((Tch.drewN (S := []) W4 1).trans h5.out.2.1) (by simp)).set 3 _
  have RH6 : Hid (Row W6 hv 65 [.pointer (some ⟨m, 0, none⟩)]) := (RH4.out.tch ((Tch.drewN (S := []) W4 1).trans h5.out.2.1) (by simp)).tch k6 (by simp only [List.mem_singleton]; omega)
  have T6 : Hid (Tch [] w W6) := (T4.out.trans ((Tch.drewN (S := []) W4 1).trans h5.out.2.1)).new k6 (by intro i hi; right; rw [List.mem_singleton.1 hi, HMW.out]; exact Nat.le_refl _)
  have HO6 : Hid (HIs W6 (Pu.HK.sha kt) bo so []) := by
    have := B3.out; have := HKM.out
    exact (HO4.out.tch ((Tch.drewN (S := []) W4 1).trans h5.out.2.1) (by simp) (by simp) (by simp)).tch k6 (by simp only [List.mem_singleton]; omega) (by simp only [List.mem_singleton]; omega) (by simp only [List.mem_singleton]; omega)
  have HI6 : Hid (HIs W6 (Pu.HK.sha kt) bi si []) := by
    have := B3.out; have := B5.out; have := HKM.out
    exact h5.out.1.tch k6 (by simp only [List.mem_singleton]; omega) (by simp only [List.mem_singleton]; omega) (by simp only [List.mem_singleton]; omega)
  clear hW6 k6 h5 c0 c0' c3' f3' RM4 RH4 T4 HO4
  go_wp2
  refine J3.out _ _ (wp_seq_k (fun K4 k4 => ?_))
  have J4 := Lib.hid k4
  clear k4
  go_wp2
  have HO6s : Hid (bo < W6.heap.size ∧ so < W6.heap.size) := HO6.out.lt
  have HI6s : Hid (bi < W6.heap.size ∧ si < W6.heap.size) := HI6.out.lt
  generalize hW7 : World.alloc _ _ = W7
  have k7 : Tch [] W6 W7 := by rw [← hW7]; exact Tch.alloc _ _
  have U7 : Hid (Row W7 W6.heap.size 4 [.bool true]) := by rw [← hW7]; exact Row.new W6 4 _
  have RM7 : Hid (Row W7 m 95 [.slice none 0 0, .slice none 0 0, .iface 74 (.pointer (some ⟨bo, 0, none⟩)), .iface 74 (.pointer (some ⟨bi, 0, none⟩)), .bool false, .bool false, .int .i64 key.length]) := RM6.out.tch k7 (by simp)
  have RH7 : Hid (Row W7 hv 65 [.pointer (some ⟨m, 0, none⟩)]) := RH6.out.tch k7 (by simp)
  have T7 : Hid (Tch [] w W7) := T6.out.trans k7
  have HO7 : Hid (HIs W7 (Pu.HK.sha kt) bo so []) := HO6.out.tch k7 (by simp) (by simp) (by simp)
  have HI7 : Hid (HIs W7 (Pu.HK.sha kt) bi si []) := HI6.out.tch k7 (by simp) (by simp) (by simp)
  clear hW7 k7 RM6 RH6 T6 HO6 HI6
  have c0 : W7.cell? ⟨hv, 0, none⟩ = some (.pointer (some ⟨m, 0, none⟩)) := by rw [RH7.out.cell]; rfl
  have c2 : W7.cell? ⟨m, 2, none⟩ = some (.iface 74 (.pointer (some ⟨bo, 0, none⟩))) := by rw [RM7.out.cell]; rfl
  have c3 : W7.cell? ⟨m, 3, none⟩ = some (.iface 74 (.pointer (some ⟨bi, 0, none⟩))) := by rw [RM7.out.cell]; rfl
  obtain ⟨x, hx⟩ := rowD HO7.out
  obtain ⟨y, hy⟩ := rowD HI7.out
  have HCL := Lib.hid (closD W7 hv W6.heap.size m bo bi x y c0 c2 c3 hx hy (by have := B5.out; omega))
  have hmf : ∀ (fn : Fn) (first cap : Array Value) (w : World), (Instr.makeFunc fn first cap).run Try.prog w = .ok (.func fn first cap) w := fun _ _ _ _ => rfl
  have hnot : (Op.unary .not (.bool true)) = pure (.bool false) := rfl
  clear hx hy x y c0 c2 c3
  refine J4.out _ _ (wp_seq_k (fun K5 k5 => ?_))
  have J5 := Lib.hid k5
  clear k5
  go_wp2_with (fail)
  refine HCL.out.mono ?_
  rintro e W8 ⟨rfl, h8⟩
  have k8 : Tch [] W7 W8 := h8.out
  have U8 : Hid (Row W8 W6.heap.size 4 [.bool true]) := U7.out.tch k8 (by simp)
  have RM8 : Hid (Row W8 m 95 [.slice none 0 0, .slice none 0 0, .iface 74 (.pointer (some ⟨bo, 0, none⟩)), .iface 74 (.pointer (some ⟨bi, 0, none⟩)), .bool false, .bool false, .int .i64 key.length]) := RM7.out.tch k8 (by simp)
  have RH8 : Hid (Row W8 hv 65 [.pointer (some ⟨m, 0, none⟩)]) := RH7.out.tch k8 (by simp)
  have T8 : Hid (Tch [] w W8) := T7.out.trans k8
  have HO8 : Hid (HIs W8 (Pu.HK.sha kt) bo so []) := HO7.out.tch k8 (by simp) (by simp) (by simp)
  have HI8 : Hid (HIs W8 (Pu.HK.sha kt) bi si []) := HI7.out.tch k8 (by simp) (by simp) (by simp)
  clear k8 h8 HCL U7 RM7 RH7 T7 HO7 HI7
  have c0 : W8.cell? ⟨hv, 0, none⟩ = some (.pointer (some ⟨m, 0, none⟩)) := by rw [RH8.out.cell]; rfl
  have c3 : W8.cell? ⟨m, 3, none⟩ = some (.iface 74 (.pointer (some ⟨bi, 0, none⟩))) := by rw [RM8.out.cell]; rfl
  have cu : W8.cell? ⟨W6.heap.size, 0, none⟩ = some (.bool true) := by rw [U8.out.cell]; rfl
  go_wp2
  refine J5.out _ _ (wp_seq_k (fun K6 k6 => ?_))
  have J6 := Lib.hid k6
  clear k6
  go_wp2
  refine J6.out _ _ (wp_seq_k (fun K7 k7 => ?_))
  have J7 := Lib.hid k7
  clear k7
  have e1 := mBlockSize (Pu.HK.sha kt)
  have e2 := cBlockSize (Pu.HK.sha kt)
  go_wp2_with (fail)
  refine (hBlock (Pu.HK.sha kt) bi si [] W8 HI8.out).mono ?_
  rintro e W9 ⟨rfl, rfl⟩
  obtain ⟨N, hN⟩ : ∃ N, N = Pu.HK.block (Pu.HK.sha kt) := ⟨_, rfl⟩
  have HN := Lib.hid hN
  have hN64 : N ≤ 64 := by rw [hN]; exact Pu.HK.ok.block_le (show Pu.HK.ok (.sha kt) from trivial)
  rw [← hN]
  clear hN c3 cu e1 e2 hmf hnot U8
  go_wp2
  refine J7.out _ _ (wp_seq_k (fun K8 k8 => ?_))
  have J8 := Lib.hid k8
  clear k8
  obtain ⟨WA, hWA⟩ : ∃ WA, WA = W8.drew.alloc (.cells (List.replicate N (Value.int .u8 0)).toArray 5) := ⟨_, rfl⟩
  have hmk : (Instr.makeSlice 24 (.int .i64 (N : Int)) (.int .i64 (N : Int))).run Try.prog W8.drew = .ok (.slice (some ⟨W8.heap.size, 0, none⟩) N N) WA := by
    rw [hWA]; exact run_make_by N N (Nat.le_refl _) (by omega) W8.drew
  have kA : Tch [] W8 WA := by rw [hWA]; exact (Tch.drewN (S := []) W8 1).trans (Tch.alloc _ _)
  have RMA : Hid (Row WA m 95 [.slice none 0 0, .slice none 0 0, .iface 74 (.pointer (some ⟨bo, 0, none⟩)), .iface 74 (.pointer (some ⟨bi, 0, none⟩)), .bool false, .bool false, .int .i64 key.length]) := RM8.out.tch kA (by simp)
  have RHA : Hid (Row WA hv 65 [.pointer (some ⟨m, 0, none⟩)]) := RH8.out.tch kA (by simp)
  have RIA : Hid (Row WA W8.heap.size 5 (List.replicate N (Value.int .u8 0))) := by rw [hWA]; exact Row.new W8.drew 5 _
  have TA : Hid (Tch [] w WA) := T8.out.trans kA
  have HOA : Hid (HIs WA (Pu.HK.sha kt) bo so []) := HO8.out.tch kA (by simp) (by simp) (by simp)
  have HIA : Hid (HIs WA (Pu.HK.sha kt) bi si []) := HI8.out.tch kA (by simp) (by simp) (by simp)
  have IPL : Hid (bo < W8.heap.size ∧ so < W8.heap.size ∧ bi < W8.heap.size ∧ si < W8.heap.size) := ⟨HO8.out.lt.1, HO8.out.lt.2, HI8.out.lt.1, HI8.out.lt.2⟩
  have cA0 : WA.cell? ⟨hv, 0, none⟩ = some (.pointer (some ⟨m, 0, none⟩)) := by rw [RHA.out.cell]; rfl
  have cA1 : WA.cell? ⟨m, 1, none⟩ = some (.slice none 0 0) := by rw [RMA.out.cell]; rfl
  have fA1 := RMA.out.free 1
  clear hWA kA RM8 RH8 T8 HO8 HI8
  go_region_held3 (fun w' => w'.cell? ⟨hv, 0, none⟩ = some (.pointer (some ⟨m, 0, none⟩))) (first | exact c0 | exact cA0 | (rw [World.cell?_setCell_other _ _ _ _ (by intro h; simp only [Addr.mk.injEq] at h; omega)]; assumption)) (fail)
  obtain ⟨ip, hip⟩ : ∃ ip, ip = W8.heap.size := ⟨_, rfl⟩
  rw [← hip] at RIA IPL ⊢
  clear hip
  generalize hWB : World.setCell _ _ _ = WB
  have kB : Tch [m] WA WB := by rw [← hWB]; exact Tch.setCell _ _ _ (by simp)
  have hd := B3.out
  have hd2 := B5.out
  have hd3 := IPL.out
  have hd4 := HKM.out
  have RMB : Hid (Row WB m 95 [.slice none 0 0, .slice (some ⟨ip, 0, none⟩) N N, .iface 74 (.pointer (some ⟨bo, 0, none⟩)), .iface 74 (.pointer (some ⟨bi, 0, none⟩)), .bool false, .bool false, .int .i64 key.length]) := by rw [← hWB]; exact RMA.out.set 1 _
  have RHB : Hid (Row WB hv 65 [.pointer (some ⟨m, 0, none⟩)]) := RHA.out.tch kB (by simp only [List.mem_singleton]; omega)
  have RIB : Hid (Row WB ip 5 (List.replicate N (Value.int .u8 0))) := RIA.out.tch kB (by simp only [List.mem_singleton]; omega)
  have TB : Hid (Tch [] w WB) := TA.out.new kB (by intro i hi; right; rw [List.mem_singleton.1 hi, HMW.out]; exact Nat.le_refl _)
  have HOB : Hid (HIs WB (Pu.HK.sha kt) bo so []) := HOA.out.tch kB (by simp only [List.mem_singleton]; omega) (by simp only [List.mem_singleton]; omega) (by simp only [List.mem_singleton]; omega)
  have HIB : Hid (HIs WB (Pu.HK.sha kt) bi si []) := HIA.out.tch kB (by simp only [List.mem_singleton]; omega) (by simp only [List.mem_singleton]; omega) (by simp only [List.mem_singleton]; omega)
  clear hWB kB RMA RHA RIA TA HOA HIA cA0 cA1 fA1 c0 hd hd2 hd3 hd4 hmk
  have c0 : WB.cell? ⟨hv, 0, none⟩ = some (.pointer (some ⟨m, 0, none⟩)) := by rw [RHB.out.cell]; rfl
  go_wp2
  refine J8.out _ _ (wp_seq_k (fun K9 k9 => ?_))
  have J9 := Lib.hid k9
  clear k9
  obtain ⟨WC, hWC⟩ : ∃ WC, WC = WB.drew.alloc (.cells (List.replicate N (Value.int .u8 0)).toArray 5) := ⟨_, rfl⟩
  have hmk : (Instr.makeSlice 24 (.int .i64 (N : Int)) (.int .i64 (N : Int))).run Try.prog WB.drew = .ok (.slice (some ⟨WB.heap.size, 0, none⟩) N N) WC := by
    rw [hWC]; exact run_make_by N N (Nat.le_refl _) (by omega) WB.drew
  have kC : Tch [] WB WC := by rw [hWC]; exact (Tch.drewN (S := []) WB 1).trans (Tch.alloc _ _)
  have RMC : Hid (Row WC m 95 [.slice none 0 0, .slice (some ⟨ip, 0, none⟩) N N, .iface 74 (.pointer (some ⟨bo, 0, none⟩)), .iface 74 (.pointer (some ⟨bi, 0, none⟩)), .bool false, .bool false, .int .i64 key.length]) := RMB.out.tch kC (by simp)
  have RHC : Hid (Row WC hv 65 [.pointer (some ⟨m, 0, none⟩)]) := RHB.out.tch kC (by simp)
  have RIC : Hid (Row WC ip 5 (List.replicate N (Value.int .u8 0))) := RIB.out.tch kC (by simp)
  have ROC : Hid (Row WC WB.heap.size 5 (List.replicate N (Value.int .u8 0))) := by rw [hWC]; exact Row.new WB.drew 5 _
  have TC : Hid (Tch [] w WC) := TB.out.trans kC
  have HOC : Hid (HIs WC (Pu.HK.sha kt) bo so []) := HOB.out.tch kC (by simp) (by simp) (by simp)
  have HIC : Hid (HIs WC (Pu.HK.sha kt) bi si []) := HIB.out.tch kC (by simp) (by simp) (by simp)
  have OPL : Hid (ip < WB.heap.size) := RIB.out.lt
  have cC0 : WC.cell? ⟨hv, 0, none⟩ = some (.pointer (some ⟨m, 0, none⟩)) := by rw [RHC.out.cell]; rfl
  have cC1 : WC.cell? ⟨m, 0, none⟩ = some (.slice none 0 0) := by rw [RMC.out.cell]; rfl
  have fC1 := RMC.out.free 0
  clear hWC kC RMB RHB RIB TB HOB HIB
  go_region_held3 (fun w' => w'.cell? ⟨hv, 0, none⟩ = some (.pointer (some ⟨m, 0, none⟩))) (first | exact c0 | exact cC0 | (rw [World.cell?_setCell_other _ _ _ _ (by intro h; simp only [Addr.mk.injEq] at h; omega)]; assumption)) (fail)
  obtain ⟨ob, hob⟩ : ∃ ob, ob = WB.heap.size := ⟨_, rfl⟩
  rw [← hob] at ROC OPL ⊢
  clear hob
  generalize hWD : World.setCell _ _ _ = WD
  have kD : Tch [m] WC WD := by rw [← hWD]; exact Tch.setCell _ _ _ (by simp)
  have hd := B3.out
  have hd2 := B5.out
  have hd3 := IPL.out
  have hd4 := HKM.out
  have hd5 := OPL.out
  have hd6 := HN.out
  have RMD : Row WD m 95 [.slice (some ⟨ob, 0, none⟩) N N, .slice (some ⟨ip, 0, none⟩) N N, .iface 74 (.pointer (some ⟨bo, 0, none⟩)), .iface 74 (.pointer (some ⟨bi, 0, none⟩)), .bool false, .bool false, .int .i64 key.length] := by rw [← hWD]; exact RMC.out.set 0 _
  have RHD : Row WD hv 65 [.pointer (some ⟨m, 0, none⟩)] := RHC.out.tch kD (by simp only [List.mem_singleton]; omega)
  have RID : Row WD ip 5 (List.replicate N (Value.int .u8 0)) := RIC.out.tch kD (by simp only [List.mem_singleton]; omega)
  have ROD : Row WD ob 5 (List.replicate N (Value.int .u8 0)) := ROC.out.tch kD (by simp only [List.mem_singleton]; omega)
  have TD : Tch [] w WD := TC.out.new kD (by intro i hi; right; rw [List.mem_singleton.1 hi, HMW.out]; exact Nat.le_refl _)
  have HOD : HIs WD (Pu.HK.sha kt) bo so [] := HOC.out.tch kD (by simp only [List.mem_singleton]; omega) (by simp only [List.mem_singleton]; omega) (by simp only [List.mem_singleton]; omega)
  have HID : HIs WD (Pu.HK.sha kt) bi si [] := HIC.out.tch kD (by simp only [List.mem_singleton]; omega) (by simp only [List.mem_singleton]; omega) (by simp only [List.mem_singleton]; omega)
  have ST : Hid (NewSt w WD (Pu.HK.sha kt) hv m bo so bi si ob ip (List.replicate (Pu.HK.block (Pu.HK.sha kt)) 0) (List.replicate (Pu.HK.block (Pu.HK.sha kt)) 0) [] key.length) := by
    rw [hd6] at RMD RID ROD
    refine ⟨(show Pu.HK.ok (.sha kt) from trivial), RHD, RMD, ?_, ?_, by simp, by simp, ⟨_, HOD⟩, HID, TD, hd4, by rw [HMW.out]; exact Nat.le_refl _, HMH.out, hd, hd2, ⟨hd3.2.2.1, hd3.2.2.2⟩, hd5⟩
    · rw [List.map_replicate]; exact ROD
    · rw [List.map_replicate]; exact RID
  have HOD' := Lib.hid HOD
  clear hWD kD RMD RHD RID ROD TD HID HOD RMC RHC RIC ROC TC HOC HIC cC0 cC1 fC1 hmk c0 hd hd2 hd3 hd4 hd5
  go_wp2
  refine J9.out _ _ ?_
  rw [hd6]
  exact hnKeyD _ w WD ⟨rfl, rfl⟩ (Pu.HK.sha kt) hv m bo so bi si ob ip key _ _ ST.out HOD'.out (HR.out.tch ST.out.tch (by intro b _; simp)) HNM.out HLT.out HKL.out rfl rfl rfl
set_option maxHeartbeats 2000000 in
set_option maxRecDepth 100000 in
theorem hmNewO (k s bl : Int) (key : By) (v : Value) (w : World) (hK : 0 < w.heap.size) (hr : Rd w v key) (hnm : Nm v) (hlt : ∀ b, v.ownBlock = some b → b < w.heap.size) (hkl : key.length ≤ 1099511627776) :
    Calls Try.prog 65 #[(.func (.func 51) #[.agg #[.int .i64 k, .int .i64 s, .int .i64 bl]] #[]), v] w (HNE w (Pu.HK.own (szOf s bl) (blOf s bl)) key) := by
  obtain ⟨vp, vc, rfl, _, _, _⟩ := id hr
  have HK := Lib.hid hK
  have HR := Lib.hid hr
  have HNM := Lib.hid hnm
  have HLT := Lib.hid hlt
  have HKL := Lib.hid hkl
  clear hK hr hnm hlt hkl
  go_enter Try.func65, Try.ntmps65
  refine wp_seq_k (fun K0 k0 => ?_)
  have J0 := Lib.hid k0
  clear k0
  go_wp2
  refine J0.out _ _ (wp_seq_k (fun K1 k1 => ?_))
  have J1 := Lib.hid k1
  clear k1
  go_wp2
  generalize hW2 : World.alloc _ _ = W2
  have RM : Hid (Row W2 w.heap.size 95 [.slice none 0 0, .slice none 0 0, .nilIface, .nilIface, .bool false, .bool false, .int .i64 key.length]) := by rw [← hW2]; exact (Row.new w 95 _).alloc _
  have RH : Hid (Row W2 (w.heap.size + 1) 65 [.pointer (some ⟨w.heap.size, 0, none⟩)]) := by
    rw [← hW2]
    have := Row.new (w.alloc (.cells #[.slice none 0 0, .slice none 0 0, .nilIface, .nilIface, .bool false, .bool false, .int .i64 key.length] 95)) 65 [.pointer (some ⟨w.heap.size, 0, none⟩)]
    rwa [World.size_alloc] at this
  have T2 : Hid (Tch [] w W2) := by rw [← hW2]; exact (Tch.alloc _ _).trans (Tch.alloc _ _)
  clear hW2
  obtain ⟨m, hm⟩ : ∃ m, m = w.heap.size := ⟨_, rfl⟩
  obtain ⟨hv, hhv⟩ : ∃ hv, hv = w.heap.size + 1 := ⟨_, rfl⟩
  rw [← hhv] at RH ⊢
  rw [← hm] at RM RH ⊢
  have hmh : m < hv := by omega
  have HMH := Lib.hid hmh
  have HMW := Lib.hid hm
  clear hm hhv
  have c0 : W2.cell? ⟨hv, 0, none⟩ = some (.pointer (some ⟨m, 0, none⟩)) := by rw [RH.out.cell]; rfl
  refine J1.out _ _ (wp_seq_k (fun K2 k2 => ?_))
  have J2 := Lib.hid k2
  clear k2
  go_region_held3 (fun w' => w'.cell? ⟨hv, 0, none⟩ = some (.pointer (some ⟨m, 0, none⟩))) (first | exact c0 | assumption | (rw [World.cell?_setCell_other _ _ _ _ (by intro h; simp only [Addr.mk.injEq] at h; omega)]; assumption)) (first | (go_at_call 51; refine (newO k s bl _).mono ?_; rintro e w3 ⟨bo, so, rfl, h3⟩; have c0' : w3.cell? ⟨hv, 0, none⟩ = some (.pointer (some ⟨m, 0, none⟩)) := h3.out.2.1.cell c0 (by simp); have c2' : w3.cell? ⟨m, 2, none⟩ = some .nilIface := by { rw [(RM.out.tch ((Tch.drewN (S := []) W2 1).trans h3.out.2.1) (by simp)).cell]; rfl }; have f2' : w3.frozen? ⟨m, 2, none⟩ = false := (RM.out.tch ((Tch.drewN (S := []) W2 1).trans h3.out.2.1) (by simp)).free 2))
  have hKm : 0 < m := by rw [HMW.out]; exact HK.out
  have HKM := Lib.hid hKm
  have B3 : Hid (hv < bo ∧ hv < so) := by
    have h1 := RH.out.lt
    have h2 : W2.heap.size ≤ bo := h3.out.2.2.1
    have h4 : W2.heap.size ≤ so := h3.out.2.2.2
    exact ⟨by omega, by omega⟩
  generalize hW4 : World.setCell _ _ _ = W4
  have k4 : Tch [m] w3 W4 := by rw [← hW4]; exact Tch.setCell _ _ _ (by simp)
  have RM4 : Hid (Row W4 m 95 [.slice none 0 0, .slice none 0 0, .iface 77 (.pointer (some ⟨bo, 0, none⟩)), .nilIface, .bool false, .bool false, .int .i64 key.length]) := by
    rw [← hW4]; exact (RM.out.tch ((Tch.drewN (S := []) W2 1).trans h3.out.2.1) (by simp)).set 2 _
  have RH4 : Hid (Row W4 hv 65 [.pointer (some ⟨m, 0, none⟩)]) := (RH.out.tch ((Tch.drewN (S := []) W2 1).trans h3.out.2.1) (by simp)).tch k4 (by simp only [List.mem_singleton]; omega)
  have T4 : Hid (Tch [] w W4) := (T2.out.trans ((Tch.drewN (S := []) W2 1).trans h3.out.2.1)).new k4 (by intro i hi; right; rw [List.mem_singleton.1 hi, HMW.out]; exact Nat.le_refl _)
  have HO4 : Hid (HIs W4 (Pu.HK.own (szOf s bl) (blOf s bl)) bo so []) := by
    have := B3.out
    exact h3.out.1.tch k4 (by simp only [List.mem_singleton]; omega) (by simp only [List.mem_singleton]; omega) (by simp only [List.mem_singleton]; omega)
  clear hW4 k4 h3 c0 c0' c2' f2' RM RH T2 hKm
  have c0 : W4.cell? ⟨hv, 0, none⟩ = some (.pointer (some ⟨m, 0, none⟩)) := by rw [RH4.out.cell]; rfl
  go_wp2
  refine J2.out _ _ (wp_seq_k (fun K3 k3 => ?_))
  have J3 := Lib.hid k3
  clear k3
  go_region_held3 (fun w' => w'.cell? ⟨hv, 0, none⟩ = some (.pointer (some ⟨m, 0, none⟩))) (first | exact c0 | assumption | (rw [World.cell?_setCell_other _ _ _ _ (by intro h; simp only [Addr.mk.injEq] at h; omega)]; assumption)) (first | (go_at_call 51; refine (newO k s bl _).mono ?_; rintro e w5 ⟨bi, si, rfl, h5⟩; have c0' : w5.cell? ⟨hv, 0, none⟩ = some (.pointer (some ⟨m, 0, none⟩)) := h5.out.2.1.cell c0 (by simp); have c3' : w5.cell? ⟨m, 3, none⟩ = some .nilIface := by { rw [(RM4.out.tch ((Tch.drewN (S := []) W4 1).trans h5.out.2.1) (by simp)).cell]; rfl }; have f3' : w5.frozen? ⟨m, 3, none⟩ = false := (RM4.out.tch ((Tch.drewN (S := []) W4 1).trans h5.out.2.1) (by simp)).free 3))
  have B5 : Hid (bo < bi ∧ bo < si ∧ so < bi ∧ so < si) := by
    have h1 := HO4.out.lt
    have h2 : W4.heap.size ≤ bi := h5.out.2.2.1
    have h4 : W4.heap.size ≤ si := h5.out.2.2.2
    exact ⟨by omega, by omega, by omega, by omega⟩
  generalize hW6 : World.setCell _ _ _ = W6
  have k6 : Tch [m] w5 W6 := by rw [← hW6]; exact Tch.setCell _ _ _ (by simp)
  have RM6 : Hid (Row W6 m 95 [.slice none 0 0, .slice none 0 0, .iface 77 (.pointer (some ⟨bo, 0, none⟩)), .iface 77 (.pointer (some ⟨bi, 0, none⟩)), .bool false, .bool false, .int .i64 key.length]) := by
    rw [← hW6]; exact (RM4.out.tch ((Tch.drewN (S := []) W4 1).trans h5.out.2.1) (by simp)).set 3 _
  have RH6 : Hid (Row W6 hv 65 [.pointer (some ⟨m, 0, none⟩)]) := (RH4.out.tch ((Tch.drewN (S := []) W4 1).trans h5.out.2.1) (by simp)).tch k6 (by simp only [List.mem_singleton]; omega)
  have T6 : Hid (Tch [] w W6) := (T4.out.trans ((Tch.drewN (S := []) W4 1).trans h5.out.2.1)).new k6 (by intro i hi; right; rw [List.mem_singleton.1 hi, HMW.out]; exact Nat.le_refl _)
  have HO6 : Hid (HIs W6 (Pu.HK.own (szOf s bl) (blOf s bl)) bo so []) := by
    have := B3.out; have := HKM.out
    exact (HO4.out.tch ((Tch.drewN (S := []) W4 1).trans h5.out.2.1) (by simp) (by simp) (by simp)).tch k6 (by simp only [List.mem_singleton]; omega) (by simp only [List.mem_singleton]; omega) (by simp only [List.mem_singleton]; omega)
  have HI6 : Hid (HIs W6 (Pu.HK.own (szOf s bl) (blOf s bl)) bi si []) := by
    have := B3.out; have := B5.out; have := HKM.out
    exact h5.out.1.tch k6 (by simp only [List.mem_singleton]; omega) (by simp only [List.mem_singleton]; omega) (by simp only [List.mem_singleton]; omega)
  clear hW6 k6 h5 c0 c0' c3' f3' RM4 RH4 T4 HO4
  go_wp2
  refine J3.out _ _ (wp_seq_k (fun K4 k4 => ?_))
  have J4 := Lib.hid k4
  clear k4
  go_wp2
  have HO6s : Hid (bo < W6.heap.size ∧ so < W6.heap.size) := HO6.out.lt
  have HI6s : Hid (bi < W6.heap.size ∧ si < W6.heap.size) := HI6.out.lt
  generalize hW7 : World.alloc _ _ = W7
  have k7 : Tch [] W6 W7 := by rw [← hW7]; exact Tch.alloc _ _
  have U7 : Hid (Row W7 W6.heap.size 4 [.bool true]) := by rw [← hW7]; exact Row.new W6 4 _
  have RM7 : Hid (Row W7 m 95 [.slice none 0 0, .slice none 0 0, .iface 77 (.pointer (some ⟨bo, 0, none⟩)), .iface 77 (.pointer (some ⟨bi, 0, none⟩)), .bool false, .bool false, .int .i64 key.length]) := RM6.out.tch k7 (by simp)
  have RH7 : Hid (Row W7 hv 65 [.pointer (some ⟨m, 0, none⟩)]) := RH6.out.tch k7 (by simp)
  have T7 : Hid (Tch [] w W7) := T6.out.trans k7
  have HO7 : Hid (HIs W7 (Pu.HK.own (szOf s bl) (blOf s bl)) bo so []) := HO6.out.tch k7 (by simp) (by simp) (by simp)
  have HI7 : Hid (HIs W7 (Pu.HK.own (szOf s bl) (blOf s bl)) bi si []) := HI6.out.tch k7 (by simp) (by simp) (by simp)
  clear hW7 k7 RM6 RH6 T6 HO6 HI6
  have c0 : W7.cell? ⟨hv, 0, none⟩ = some (.pointer (some ⟨m, 0, none⟩)) := by rw [RH7.out.cell]; rfl
  have c2 : W7.cell? ⟨m, 2, none⟩ = some (.iface 77 (.pointer (some ⟨bo, 0, none⟩))) := by rw [RM7.out.cell]; rfl
  have c3 : W7.cell? ⟨m, 3, none⟩ = some (.iface 77 (.pointer (some ⟨bi, 0, none⟩))) := by rw [RM7.out.cell]; rfl
  obtain ⟨x, hx⟩ := rowO HO7.out
  obtain ⟨y, hy⟩ := rowO HI7.out
  have HCL := Lib.hid (closO W7 hv W6.heap.size m bo bi x y c0 c2 c3 hx hy (by have := B5.out; omega))
  have hmf : ∀ (fn : Fn) (first cap : Array Value) (w : World), (Instr.makeFunc fn first cap).run Try.prog w = .ok (.func fn first cap) w := fun _ _ _ _ => rfl
  have hnot : (Op.unary .not (.bool true)) = pure (.bool false) := rfl
  clear hx hy x y c0 c2 c3
  refine J4.out _ _ (wp_seq_k (fun K5 k5 => ?_))
  have J5 := Lib.hid k5
  clear k5
  go_wp2_with (fail)
  refine HCL.out.mono ?_
  rintro e W8 ⟨rfl, h8⟩
  have k8 : Tch [] W7 W8 := h8.out
  have U8 : Hid (Row W8 W6.heap.size 4 [.bool true]) := U7.out.tch k8 (by simp)
  have RM8 : Hid (Row W8 m 95 [.slice none 0 0, .slice none 0 0, .iface 77 (.pointer (some ⟨bo, 0, none⟩)), .iface 77 (.pointer (some ⟨bi, 0, none⟩)), .bool false, .bool false, .int .i64 key.length]) := RM7.out.tch k8 (by simp)
  have RH8 : Hid (Row W8 hv 65 [.pointer (some ⟨m, 0, none⟩)]) := RH7.out.tch k8 (by simp)
  have T8 : Hid (Tch [] w W8) := T7.out.trans k8
  have HO8 : Hid (HIs W8 (Pu.HK.own (szOf s bl) (blOf s bl)) bo so []) := HO7.out.tch k8 (by simp) (by simp) (by simp)
  have HI8 : Hid (HIs W8 (Pu.HK.own (szOf s bl) (blOf s bl)) bi si []) := HI7.out.tch k8 (by simp) (by simp) (by simp)
  clear k8 h8 HCL U7 RM7 RH7 T7 HO7 HI7
  have c0 : W8.cell? ⟨hv, 0, none⟩ = some (.pointer (some ⟨m, 0, none⟩)) := by rw [RH8.out.cell]; rfl
  have c3 : W8.cell? ⟨m, 3, none⟩ = some (.iface 77 (.pointer (some ⟨bi, 0, none⟩))) := by rw [RM8.out.cell]; rfl
  have cu : W8.cell? ⟨W6.heap.size, 0, none⟩ = some (.bool true) := by rw [U8.out.cell]; rfl
  go_wp2
  refine J5.out _ _ (wp_seq_k (fun K6 k6 => ?_))
  have J6 := Lib.hid k6
  clear k6
  go_wp2
  refine J6.out _ _ (wp_seq_k (fun K7 k7 => ?_))
  have J7 := Lib.hid k7
  clear k7
  have e1 := mBlockSize (Pu.HK.own (szOf s bl) (blOf s bl))
  have e2 := cBlockSize (Pu.HK.own (szOf s bl) (blOf s bl))
  go_wp2_with (fail)
  refine (hBlock (Pu.HK.own (szOf s bl) (blOf s bl)) bi si [] W8 HI8.out).mono ?_
  rintro e W9 ⟨rfl, rfl⟩
  obtain ⟨N, hN⟩ : ∃ N, N = Pu.HK.block (Pu.HK.own (szOf s bl) (blOf s bl)) := ⟨_, rfl⟩
  have HN := Lib.hid hN
  have hN64 : N ≤ 64 := by rw [hN]; exact Pu.HK.ok.block_le (own_ok s bl)
  rw [← hN]
  clear hN c3 cu e1 e2 hmf hnot U8
  go_wp2
  refine J7.out _ _ (wp_seq_k (fun K8 k8 => ?_))
  have J8 := Lib.hid k8
  clear k8
  obtain ⟨WA, hWA⟩ : ∃ WA, WA = W8.drew.alloc (.cells (List.replicate N (Value.int .u8 0)).toArray 5) := ⟨_, rfl⟩
  have hmk : (Instr.makeSlice 24 (.int .i64 (N : Int)) (.int .i64 (N : Int))).run Try.prog W8.drew = .ok (.slice (some ⟨W8.heap.size, 0, none⟩) N N) WA := by
    rw [hWA]; exact run_make_by N N (Nat.le_refl _) (by omega) W8.drew
  have kA : Tch [] W8 WA := by rw [hWA]; exact (Tch.drewN (S := []) W8 1).trans (Tch.alloc _ _)
  have RMA : Hid (Row WA m 95 [.slice none 0 0, .slice none 0 0, .iface 77 (.pointer (some ⟨bo, 0, none⟩)), .iface 77 (.pointer (some ⟨bi, 0, none⟩)), .bool false, .bool false, .int .i64 key.length]) := RM8.out.tch kA (by simp)
  have RHA : Hid (Row WA hv 65 [.pointer (some ⟨m, 0, none⟩)]) := RH8.out.tch kA (by simp)
  have RIA : Hid (Row WA W8.heap.size 5 (List.replicate N (Value.int .u8 0))) := by rw [hWA]; exact Row.new W8.drew 5 _
  have TA : Hid (Tch [] w WA) := T8.out.trans kA
  have HOA : Hid (HIs WA (Pu.HK.own (szOf s bl) (blOf s bl)) bo so []) := HO8.out.tch kA (by simp) (by simp) (by simp)
  have HIA : Hid (HIs WA (Pu.HK.own (szOf s bl) (blOf s bl)) bi si []) := HI8.out.tch kA (by simp) (by simp) (by simp)
  have IPL : Hid (bo < W8.heap.size ∧ so < W8.heap.size ∧ bi < W8.heap.size ∧ si < W8.heap.size) := ⟨HO8.out.lt.1, HO8.out.lt.2, HI8.out.lt.1, HI8.out.lt.2⟩
  have cA0 : WA.cell? ⟨hv, 0, none⟩ = some (.pointer (some ⟨m, 0, none⟩)) := by rw [RHA.out.cell]; rfl
  have cA1 : WA.cell? ⟨m, 1, none⟩ = some (.slice none 0 0) := by rw [RMA.out.cell]; rfl
  have fA1 := RMA.out.free 1
  clear hWA kA RM8 RH8 T8 HO8 HI8
  go_region_held3 (fun w' => w'.cell? ⟨hv, 0, none⟩ = some (.pointer (some ⟨m, 0, none⟩))) (first | exact c0 | exact cA0 | (rw [World.cell?_setCell_other _ _ _ _ (by intro h; simp only [Addr.mk.injEq] at h; omega)]; assumption)) (fail)
  obtain ⟨ip, hip⟩ : ∃ ip, ip = W8.heap.size := ⟨_, rfl⟩
  rw [← hip] at RIA IPL ⊢
  clear hip
  generalize hWB : World.setCell _ _ _ = WB
  have kB : Tch [m] WA WB := by rw [← hWB]; exact Tch.setCell _ _ _ (by simp)
  have hd := B3.out
  have hd2 := B5.out
  have hd3 := IPL.out
  have hd4 := HKM.out
  have RMB : Hid (Row WB m 95 [.slice none 0 0, .slice (some ⟨ip, 0, none⟩) N N, .iface 77 (.pointer (some ⟨bo, 0, none⟩)), .iface 77 (.pointer (some ⟨bi, 0, none⟩)), .bool false, .bool false, .int .i64 key.length]) := by rw [← hWB]; exact RMA.out.set 1 _
  have RHB : Hid (Row WB hv 65 [.pointer (some ⟨m, 0, none⟩)]) := RHA.out.tch kB (by simp only [List.mem_singleton]; omega)
  have RIB : Hid (Row WB ip 5 (List.replicate N (Value.int .u8 0))) := RIA.out.tch kB (by simp only [List.mem_singleton]; omega)
  have TB : Hid (Tch [] w WB) := TA.out.new kB (by intro i hi; right; rw [List.mem_singleton.1 hi, HMW.out]; exact Nat.le_refl _)
  have HOB : Hid (HIs WB (Pu.HK.own (szOf s bl) (blOf s bl)) bo so []) := HOA.out.tch kB (by simp only [List.mem_singleton]; omega) (by simp only [List.mem_singleton]; omega) (by simp only [List.mem_singleton]; omega)
  have HIB : Hid (HIs WB (Pu.HK.own (szOf s bl) (blOf s bl)) bi si []) := HIA.out.tch kB (by simp only [List.mem_singleton]; omega) (by simp only [List.mem_singleton]; omega) (by simp only [List.mem_singleton]; omega)
  clear hWB kB RMA RHA RIA TA HOA HIA cA0 cA1 fA1 c0 hd hd2 hd3 hd4 hmk
  have c0 : WB.cell? ⟨hv, 0, none⟩ = some (.pointer (some ⟨m, 0, none⟩)) := by rw [RHB.out.cell]; rfl
  go_wp2
  refine J8.out _ _ (wp_seq_k (fun K9 k9 => ?_))
  have J9 := Lib.hid k9
  clear k9
  obtain ⟨WC, hWC⟩ : ∃ WC, WC = WB.drew.alloc (.cells (List.replicate N (Value.int .u8 0)).toArray 5) := ⟨_, rfl⟩
  have hmk : (Instr.makeSlice 24 (.int .i64 (N : Int)) (.int .i64 (N : Int))).run Try.prog WB.drew = .ok (.slice (some ⟨WB.heap.size, 0, none⟩) N N) WC := by
    rw [hWC]; exact run_make_by N N (Nat.le_refl _) (by omega) WB.drew
  have kC : Tch [] WB WC := by rw [hWC]; exact (Tch.drewN (S := []) WB 1).trans (Tch.alloc _ _)
  have RMC : Hid (Row WC m 95 [.slice none 0 0, .slice (some ⟨ip, 0, none⟩) N N, .iface 77 (.pointer (some ⟨bo, 0, none⟩)), .iface 77 (.pointer (some ⟨bi, 0, none⟩)), .bool false, .bool false, .int .i64 key.length]) := RMB.out.tch kC (by simp)
  have RHC : Hid (Row WC hv 65 [.pointer (some ⟨m, 0, none⟩)]) := RHB.out.tch kC (by simp)
  have RIC : Hid (Row WC ip 5 (List.replicate N (Value.int .u8 0))) := RIB.out.tch kC (by simp)
  have ROC : Hid (Row WC WB.heap.size 5 (List.replicate N (Value.int .u8 0))) := by rw [hWC]; exact Row.new WB.drew 5 _
  have TC : Hid (Tch [] w WC) := TB.out.trans kC
  have HOC : Hid (HIs WC (Pu.HK.own (szOf s bl) (blOf s bl)) bo so []) := HOB.out.tch kC (by simp) (by simp) (by simp)
  have HIC : Hid (HIs WC (Pu.HK.own (szOf s bl) (blOf s bl)) bi si []) := HIB.out.tch kC (by simp) (by simp) (by simp)
  have OPL : Hid (ip < WB.heap.size) := RIB.out.lt
  have cC0 : WC.cell? ⟨hv, 0, none⟩ = some (.pointer (some ⟨m, 0, none⟩)) := by rw [RHC.out.cell]; rfl
  have cC1 : WC.cell? ⟨m, 0, none⟩ = some (.slice none 0 0) := by rw [RMC.out.cell]; rfl
  have fC1 := RMC.out.free 0
  clear hWC kC RMB RHB RIB TB HOB HIB
  go_region_held3 (fun w' => w'.cell? ⟨hv, 0, none⟩ = some (.pointer (some ⟨m, 0, none⟩))) (first | exact c0 | exact cC0 | (rw [World.cell?_setCell_other _ _ _ _ (by intro h; simp only [Addr.mk.injEq] at h; omega)]; assumption)) (fail)
  obtain ⟨ob, hob⟩ : ∃ ob, ob = WB.heap.size := ⟨_, rfl⟩
  rw [← hob] at ROC OPL ⊢
  clear hob
  generalize hWD : World.setCell _ _ _ = WD
  have kD : Tch [m] WC WD := by rw [← hWD]; exact Tch.setCell _ _ _ (by simp)
  have hd := B3.out
  have hd2 := B5.out
  have hd3 := IPL.out
  have hd4 := HKM.out
  have hd5 := OPL.out
  have hd6 := HN.out
  have RMD : Row WD m 95 [.slice (some ⟨ob, 0, none⟩) N N, .slice (some ⟨ip, 0, none⟩) N N, .iface 77 (.pointer (some ⟨bo, 0, none⟩)), .iface 77 (.pointer (some ⟨bi, 0, none⟩)), .bool false, .bool false, .int .i64 key.length] := by rw [← hWD]; exact RMC.out.set 0 _
  have RHD : Row WD hv 65 [.pointer (some ⟨m, 0, none⟩)] := RHC.out.tch kD (by simp only [List.mem_singleton]; omega)
  have RID : Row WD ip 5 (List.replicate N (Value.int .u8 0)) := RIC.out.tch kD (by simp only [List.mem_singleton]; omega)
  have ROD : Row WD ob 5 (List.replicate N (Value.int .u8 0)) := ROC.out.tch kD (by simp only [List.mem_singleton]; omega)
  have TD : Tch [] w WD := TC.out.new kD (by intro i hi; right; rw [List.mem_singleton.1 hi, HMW.out]; exact Nat.le_refl _)
  have HOD : HIs WD (Pu.HK.own (szOf s bl) (blOf s bl)) bo so [] := HOC.out.tch kD (by simp only [List.mem_singleton]; omega) (by simp only [List.mem_singleton]; omega) (by simp only [List.mem_singleton]; omega)
  have HID : HIs WD (Pu.HK.own (szOf s bl) (blOf s bl)) bi si [] := HIC.out.tch kD (by simp only [List.mem_singleton]; omega) (by simp only [List.mem_singleton]; omega) (by simp only [List.mem_singleton]; omega)
  have ST : Hid (NewSt w WD (Pu.HK.own (szOf s bl) (blOf s bl)) hv m bo so bi si ob ip (List.replicate (Pu.HK.block (Pu.HK.own (szOf s bl) (blOf s bl))) 0) (List.replicate (Pu.HK.block (Pu.HK.own (szOf s bl) (blOf s bl))) 0) [] key.length) := by
    rw [hd6] at RMD RID ROD
    refine ⟨(own_ok s bl), RHD, RMD, ?_, ?_, by simp, by simp, ⟨_, HOD⟩, HID, TD, hd4, by rw [HMW.out]; exact Nat.le_refl _, HMH.out, hd, hd2, ⟨hd3.2.2.1, hd3.2.2.2⟩, hd5⟩
    · rw [List.map_replicate]; exact ROD
    · rw [List.map_replicate]; exact RID
  have HOD' := Lib.hid HOD
  clear hWD kD RMD RHD RID ROD TD HID HOD RMC RHC RIC ROC TC HOC HIC cC0 cC1 fC1 hmk c0 hd hd2 hd3 hd4 hd5
  go_wp2
  refine J9.out _ _ ?_
  rw [hd6]
  exact hnKeyO _ w WD ⟨rfl, rfl⟩ (Pu.HK.own (szOf s bl) (blOf s bl)) hv m bo so bi si ob ip key _ _ ST.out HOD'.out (HR.out.tch ST.out.tch (by intro b _; simp)) HNM.out HLT.out HKL.out rfl rfl rfl
end Go.Proofs.Ytgomodhhomekpaa

/-
  impl.mac.
-/
namespace Go.Proofs.Ytgomodhhomekpaa
open Go.RowKit Pu Ar
theorem HNE.earlier {w w1 w' : World} {hk : Pu.HK} {key : By} {e : Ending} (h : HNE w1 hk key e w') (k : Tch [] w w1) : HNE w hk key e w' := by
  obtain ⟨F, rfl, h1⟩ := h
  refine ⟨F, rfl, h1.out.1, h1.out.2.1, k.trans h1.out.2.2.1, ?_⟩
  intro b hb
  rcases h1.out.2.2.2 b hb with h | h
  · exact .inl h
  · exact .inr (Nat.le_trans k.size h)
theorem KIs.lt {w : World} {kt : List UInt32} (h : KIs w kt) : 0 < w.heap.size := h.2.lt
set_option maxHeartbeats 1000000 in
set_option maxRecDepth 100000 in
theorem iMac0 (kt : List UInt32) (k s bl : Int) (key : By) (v : Value) (w : World) (hK : KIs w kt) (hv : Rd w v key) (hl : key.length ≤ 1099511627776) :
    Calls Try.prog 43 #[.agg #[.int .i64 k, .int .i64 s, .int .i64 bl], v] w (HNE w (kindOf kt k s bl) key) := by
  have HV := Lib.hid hv
  have HL := Lib.hid hl
  have HK := Lib.hid hK
  clear hv hl hK
  go_enter Try.func43, Try.ntmps43
  refine wp_seq_k (fun K0 k0 => ?_)
  have J0 := Lib.hid k0
  clear k0
  go_wp2
  generalize hW1 : World.alloc _ _ = W1
  have R1 : Row W1 w.heap.size 23 [.int .i64 k, .int .i64 s, .int .i64 bl] := by rw [← hW1]; exact Row.new w 23 _
  have T1 : Hid (Tch [] w W1) := by rw [← hW1]; exact Tch.alloc _ _
  have c0 : W1.cell? ⟨w.heap.size, 0, none⟩ = some (.int .i64 k) := by rw [R1.cell]; rfl
  have c1 : W1.cell? ⟨w.heap.size, 1, none⟩ = some (.int .i64 s) := by rw [R1.cell]; rfl
  have c2 : W1.cell? ⟨w.heap.size, 2, none⟩ = some (.int .i64 bl) := by rw [R1.cell]; rfl
  have HR1 := Lib.hid R1
  clear hW1 R1
  obtain ⟨c, hc⟩ : ∃ c, c = w.heap.size := ⟨_, rfl⟩
  rw [← hc] at c0 c1 c2 HR1 ⊢
  clear hc
  by_cases hk : k = 1
  · subst hk
    refine J0.out _ _ (wp_seq_k (fun K1 k1 => ?_))
    have J1 := Lib.hid k1
    clear k1
    go_wp2_with (fail)
    refine (iCopied v key W1 (HV.out.tch T1.out (by intro i _; simp)) (by have := HL.out; omega)).mono ?_
    rintro e W2 ⟨v2, rfl, h2⟩
    go_wp2_with (fail)
    refine (hmNewD kt key v2 W2 (HK.out.tch (T1.out.trans h2.out.1.tchNil) (by simp)) h2.out.1.1.rd h2.out.1.1.nm h2.out.1.1.lt HL.out).mono ?_
    rintro e W3 ⟨F, rfl, h3⟩
    go_wp2
    go_ret
    rw [kind_sha]
    exact HNE.earlier ⟨F, rfl, h3⟩ (T1.out.trans h2.out.1.tchNil)
  · have hkb : (k == 1) = false := by simpa using hk
    refine J0.out _ _ (wp_seq_k (fun K1 k1 => ?_))
    have J1 := Lib.hid k1
    clear k1
    have hmf : ∀ (fn : Fn) (first cap : Array Value) (w : World), (Instr.makeFunc fn first cap).run Try.prog w = .ok (.func fn first cap) w := fun _ _ _ _ => rfl
    go_wp2
    refine J1.out _ _ (wp_seq_k (fun K2 k2 => ?_))
    have J2 := Lib.hid k2
    clear k2
    go_region_held3 (fun w' => w'.cell? ⟨c, 0, none⟩ = some (.int .i64 k) ∧ w'.cell? ⟨c, 1, none⟩ = some (.int .i64 s) ∧ w'.cell? ⟨c, 2, none⟩ = some (.int .i64 bl)) (first | exact ⟨c0, c1, c2⟩ | exact KEEP2.out | exact KEEP3.out) (first | (go_at_call 45; refine (iCopied v key W1.drew (HV.out.tch (T1.out.trans (Tch.drewN W1 1)) (by intro i _; simp)) (by have := HL.out; omega)).mono ?_; rintro e W2 ⟨v2, rfl, h2⟩; have KEEP2 : Hid (W2.cell? ⟨c, 0, none⟩ = some (.int .i64 k) ∧ W2.cell? ⟨c, 1, none⟩ = some (.int .i64 s) ∧ W2.cell? ⟨c, 2, none⟩ = some (.int .i64 bl)) := ⟨h2.out.1.tchNil.cell c0 (by simp), h2.out.1.tchNil.cell c1 (by simp), h2.out.1.tchNil.cell c2 (by simp)⟩) | (go_at_call 65; refine (hmNewO k s bl key _ _ ((HK.out.tch ((T1.out.trans (Tch.drewN W1 1)).trans h2.out.1.tchNil) (by simp)).lt) h2.out.1.1.rd h2.out.1.1.nm h2.out.1.1.lt HL.out).mono ?_; rintro e W3 ⟨F, rfl, h3⟩; have KEEP3 : Hid (W3.cell? ⟨c, 0, none⟩ = some (.int .i64 k) ∧ W3.cell? ⟨c, 1, none⟩ = some (.int .i64 s) ∧ W3.cell? ⟨c, 2, none⟩ = some (.int .i64 bl)) := ⟨h3.out.2.2.1.cell KEEP2.out.1 (by simp), h3.out.2.2.1.cell KEEP2.out.2.1 (by simp), h3.out.2.2.1.cell KEEP2.out.2.2 (by simp)⟩))
    all_goals (go_wp2; refine J2.out _ _ ?_; go_wp2; go_ret; rw [bad_kind kt k s bl hk]; exact HNE.earlier ⟨F, rfl, h3⟩ ((T1.out.trans (Tch.drewN W1 1)).trans h2.out.1.tchNil))
end Go.Proofs.Ytgomodhhomekpaa

/-
  impl.Mac.
-/
namespace Go.Proofs.Ytgomodhhomekpaa
open Go.RowKit Pu Ar
/-- The slice v of slices reads as the pieces ps. -/
def PRd (w : World) (v : Value) (ps : List By) : Prop :=
  ∃ p cap, v = .slice p ps.length cap ∧ ps.length ≤ cap ∧ cap ≤ maxLen ∧ (ps = [] ∨ ∃ b o, p = some ⟨b, o, none⟩ ∧ ∀ i x, ps[i]? = some x → ∃ u, w.cell? ⟨b, o + i, none⟩ = some u ∧ Rd w u x)
theorem Rd.tchNil {w w' : World} {v : Value} {l : By} (h : Rd w v l) (k : Tch [] w w') : Rd w' v l := h.tch k (by intro b _; simp)
def IAP (a : Act) (w : World) (hk : Pu.HK) (F : HF) (o ib l : By) (i : Nat) (a' : Act) (w' : World) : Prop :=
  Frm 26 a' ∧ Same [7, 13, 14] a a' ∧ G a' 15 = .int .i64 ((i : Int) + 1) ∧ Hid (MacAt w' hk F o ib l) ∧ Hid (∃ wm, Tch [] w wm ∧ Tch [F.bi, F.si] wm w')
set_option maxRecDepth 100000 in
theorem iaRound (a : Act) (w : World) (h : Frm 26 a) (Q : Exit → Act → World → Prop) (hk : Pu.HK) (F : HF) (o ib l x : By) (b po i n cap : Nat) (u : Value)
    (hM : MacAt w hk F o ib l) (hi : i < n) (hn : (n : Int) ≤ 9223372036854775807) (cu : w.cell? ⟨b, po + i, none⟩ = some u) (hx : Rd w u x) (hlen : (l ++ x).length ≤ 1099511627776)
    (g7 : G a 7 = .pointer (some ⟨F.m, 0, none⟩)) (g13 : G a 13 = .slice (some ⟨b, po, none⟩) n cap) (g14 : G a 14 = .int .i64 n) (g15 : G a 15 = .int .i64 i)
    (hQ : ∀ a' w', IAP a w hk F o ib (l ++ x) i a' w' → Q .normal a' w') :
    (part (bodyOf Try.f26) [true, true, false, true, false, false]).wp Try.prog Q a w := by
  have hii : (i : Int) < n := by exact_mod_cast hi
  conv => arg 2; whnf
  rw [lit26 a h]
  simp only [g7, g13, g14, g15]
  have G7 := Lib.hid g7
  have G13 := Lib.hid g13
  have G14 := Lib.hid g14
  have HM := Lib.hid hM
  have HX := Lib.hid hx
  have HL := Lib.hid hlen
  clear h g7 g13 g14 g15 hM hx hlen
  go_wp2_with (fail)
  refine (iCopied u x w HX.out (by have := HL.out; rw [List.length_append] at this; omega)).mono ?_
  rintro e w1 ⟨v1, rfl, h1⟩
  have M1 : Hid (MacAt w1 hk F o ib l) := HM.out.tchNew h1.out.1.tchNil (by simp)
  have of1 : Off [F.bi, F.si] v1 := h1.out.1.fresh (by
    intro b hb; exact HM.out.lt b (by simp only [HF.all, List.mem_cons, List.not_mem_nil, or_false] at hb ⊢; omega))
  have OF1 := Lib.hid of1
  clear of1
  go_wp2_with (fail)
  refine (macWrite hk F o ib l x v1 w1 M1.out h1.out.1.1.rd h1.out.1.1.nm OF1.out HL.out).mono ?_
  rintro e w2 ⟨rfl, h2⟩
  go_wp2
  have E7 := G7.out
  have E13 := G13.out
  have E14 := G14.out
  exact ⟨⟨rfl, rfl⟩, ⟨E7.symm, E13.symm, E14.symm, trivial⟩, rfl, h2.out.1, ⟨w1, h1.out.1.tchNil, h2.out.2⟩⟩
def IAX (a : Act) (w : World) (a' : Act) (w' : World) : Prop := Frm 26 a' ∧ Same [7] a a' ∧ w' = w
set_option maxRecDepth 100000 in
theorem iaLeave (a : Act) (w : World) (h : Frm 26 a) (Q : Exit → Act → World → Prop) (n : Nat) (g14 : G a 14 = .int .i64 n) (g15 : G a 15 = .int .i64 n)
    (hQ : ∀ a' w', IAX a w a' w' → Q (.exit 0) a' w') :
    (part (bodyOf Try.f26) [true, true, false, true, false, false]).wp Try.prog Q a w := by
  conv => arg 2; whnf
  rw [lit26 a h]
  simp only [g14, g15]
  clear h g14 g15
  go_wp2
  exact ⟨⟨rfl, rfl⟩, ⟨rfl, trivial⟩, rfl⟩
theorem iaLoop_eq : part (bodyOf Try.f26) [true, true, false, true, false] = .loop (part (bodyOf Try.f26) [true, true, false, true, false, false]) := by kernel_rfl
structure IAI (a0 : Act) (w0 : World) (wb : World) (hk : Pu.HK) (F : HF) (o ib l : By) (ps : List By) (i : Nat) (a : Act) (w : World) : Prop where
  frm : Frm 26 a
  same : Same [7, 13, 14] a0 a
  le : i ≤ ps.length
  g15 : G a 15 = .int .i64 (i : Int)
  mac : MacAt w hk F o ib (l ++ (ps.take i).flatten)
  tch : Tch [] wb w
def IAE (a : Act) (wb : World) (hk : Pu.HK) (F : HF) (o ib l : By) (a' : Act) (w' : World) : Prop :=
  Frm 26 a' ∧ Same [7] a a' ∧ Hid (MacAt w' hk F o ib l ∧ Tch [] wb w')
theorem flatten_take_le (ps : List By) (i : Nat) : (ps.take i).flatten.length ≤ ps.flatten.length := by
  have e : ps.flatten = (ps.take i).flatten ++ (ps.drop i).flatten := by rw [← List.flatten_append, List.take_append_drop]
  rw [e, List.length_append]; omega
theorem PRd.tchNil {w w' : World} {v : Value} {ps : List By} (h : PRd w v ps) (k : Tch [] w w') : PRd w' v ps := by
  obtain ⟨p, cap, hv, h1, h2, h3⟩ := h
  refine ⟨p, cap, hv, h1, h2, ?_⟩
  rcases h3 with h | ⟨b, o, rfl, h⟩
  · exact .inl h
  · refine .inr ⟨b, o, rfl, fun i x hx => ?_⟩
    obtain ⟨u, hu, hr⟩ := h i x hx
    exact ⟨u, k.cell hu (by simp), hr.tchNil k⟩
theorem iaLoop (a : Act) (w wb : World) (h : Frm 26 a) (Q : Exit → Act → World → Prop) (hk : Pu.HK) (F : HF) (o ib l : By) (ps : List By) (v : Value)
    (hM : MacAt w hk F o ib l) (hT : Tch [] wb w) (hP : PRd wb v ps) (hF : wb.heap.size ≤ F.bi ∧ wb.heap.size ≤ F.si) (hlen : (l ++ ps.flatten).length ≤ 1099511627776)
    (g7 : G a 7 = .pointer (some ⟨F.m, 0, none⟩)) (g13 : G a 13 = v) (g14 : G a 14 = .int .i64 ps.length) (g15 : G a 15 = .int .i64 0)
    (hQ : ∀ a' w', IAE a wb hk F o ib (l ++ ps.flatten) a' w' → Q (.exit 0) a' w') :
    (part (bodyOf Try.f26) [true, true, false, true, false]).wp Try.prog Q a w := by
  rw [iaLoop_eq]
  obtain ⟨q, cap, hv, hcap, hmax, hrd⟩ := hP
  unfold maxLen at hmax
  refine wp_loop (fun a' w' => ∃ i, IAI a w wb hk F o ib l ps i a' w') (fun a' _ => ps.length - (intOf (G a' 15)).toNat) ⟨0, h, by simp [Same], by omega, g15, by simpa using hM, hT⟩ ?_
  rintro a1 w1 ⟨i, I⟩
  by_cases hi : i < ps.length
  · obtain ⟨pb, po, rfl, hcell⟩ : ∃ b o, q = some ⟨b, o, none⟩ ∧ ∀ i x, ps[i]? = some x → ∃ u, wb.cell? ⟨b, o + i, none⟩ = some u ∧ Rd wb u x := by
      rcases hrd with h | h
      · rw [h] at hi; simp at hi
      · exact h
    obtain ⟨u, cu, hu⟩ := hcell i _ (List.getElem?_eq_getElem hi)
    have ef : l ++ (ps.take (i + 1)).flatten = (l ++ (ps.take i).flatten) ++ ps[i] := by
      rw [List.take_succ_eq_append_getElem hi, List.flatten_append, List.append_assoc]; simp
    have hle := flatten_take_le ps (i + 1)
    refine iaRound a1 w1 I.frm _ hk F o ib _ ps[i] pb po i ps.length cap u I.mac hi (by omega) (I.tch.cell cu (by simp)) (hu.tchNil I.tch) (by
      rw [← ef, List.length_append]; rw [List.length_append] at hlen; omega) ((I.same.get 7 rfl).trans g7) ((I.same.get 13 rfl).trans (g13.trans hv)) ((I.same.get 14 rfl).trans g14) I.g15 ?_
    rintro a' w' ⟨p1, p2, p3, p4, wm, p5, p6⟩
    simp only [Exit.then]
    refine ⟨⟨i + 1, p1, ?_, by omega, p3, by rw [ef]; exact p4.out, (I.tch.trans p5).new p6 ?_⟩, ?_⟩
    · have s := I.same
      simp only [Same] at s p2 ⊢
      simp only [p2, s, and_self]
    · intro j hj; right; simp only [List.mem_cons, List.not_mem_nil, or_false] at hj; omega
    · rw [p3, I.g15]; simp [intOf]; omega
  · have hi' : i = ps.length := by have := I.le; omega
    subst hi'
    refine iaLeave a1 w1 I.frm _ ps.length ((I.same.get 14 rfl).trans g14) I.g15 ?_
    rintro a' w' ⟨p1, p2, rfl⟩
    simp only [Exit.then]
    have s := I.same
    have hm := I.mac
    rw [List.take_length] at hm
    refine hQ _ _ ⟨p1, ?_, hm, I.tch⟩
    simp only [Same] at s p2 ⊢
    simp only [p2, s, and_self]
set_option maxHeartbeats 1000000 in
set_option maxRecDepth 100000 in
/-- impl.Mac. -/
theorem iMac (kt : List UInt32) (k s bl : Int) (key : By) (ps : List By) (kv pv : Value) (w : World) (hK : KIs w kt) (hv : Rd w kv key) (hl : key.length ≤ 1099511627776) (hp : PRd w pv ps) (hpl : ps.flatten.length ≤ 549755813888) :
    Calls Try.prog 26 #[.agg #[.int .i64 k, .int .i64 s, .int .i64 bl], kv, pv] w fun e w' => ∃ v', e = .returned v' ∧ Hid (Grew w w' (.slice none 0 0) v' (mac (kindOf kt k s bl) key ps.flatten)) := by
  obtain ⟨pq, pc, hpe, _, _, _⟩ := id hp
  have HV := Lib.hid hv
  have HL := Lib.hid hl
  have HK := Lib.hid hK
  have HP := Lib.hid hp
  have HPL := Lib.hid hpl
  clear hv hl hK hp hpl
  subst hpe
  go_enter Try.func26, Try.ntmps26
  refine wp_seq_k (fun K0 k0 => ?_)
  have J0 := Lib.hid k0
  clear k0
  go_wp2
  generalize hW1 : World.alloc _ _ = W1
  have R1 : Row W1 w.heap.size 23 [.int .i64 k, .int .i64 s, .int .i64 bl] := by rw [← hW1]; exact Row.new w 23 _
  have T1 : Hid (Tch [] w W1) := by rw [← hW1]; exact Tch.alloc _ _
  have HR1 := Lib.hid R1
  clear hW1 R1
  obtain ⟨c, hc⟩ : ∃ c, c = w.heap.size := ⟨_, rfl⟩
  rw [← hc] at HR1 ⊢
  clear hc
  refine J0.out _ _ (wp_seq_k (fun K1 k1 => ?_))
  have J1 := Lib.hid k1
  clear k1
  go_wp2_with (first | (refine wpList_load_row rfl 23 _ rfl c rfl 23 #[.int .i64 k, .int .i64 s, .int .i64 bl] (0, 0) _ HR1.out Try.underlying23 rfl (by kernel_rfl) ?_) | fail)
  refine (iMac0 kt k s bl key kv W1 (HK.out.tch T1.out (by simp)) (HV.out.tchNil T1.out) HL.out).mono ?_
  rintro e W2 ⟨F, rfl, h2⟩
  go_wp2
  refine J1.out _ _ (wp_seq_k (fun K2 k2 => ?_))
  have J2 := Lib.hid k2
  clear k2
  go_wp2
  have MA := h2.out.1
  have hnew : Hid (∀ b ∈ F.all, b = 0 ∨ w.heap.size ≤ b) := by
    intro b hb
    rcases h2.out.2.2.2 b hb with h | h
    · exact .inl h
    · exact .inr (Nat.le_trans T1.out.size h)
  have hF : w.heap.size ≤ F.bi ∧ w.heap.size ≤ F.si := by
    have k1 := MA.k1
    constructor
    · rcases hnew.out F.bi (by simp [HF.all]) with h | h
      · exact absurd h.symm k1.2.2.2.1
      · exact h
    · rcases hnew.out F.si (by simp [HF.all]) with h | h
      · exact absurd h.symm k1.2.2.2.2
      · exact h
  have hil : (ipad (kindOf kt k s bl) key).length ≤ 64 := by rw [ipad_length MA.ok]; exact MA.ok.block_le
  have hol : (opad (kindOf kt k s bl) key).length ≤ 64 := by rw [opad_length MA.ok]; exact MA.ok.block_le
  have T2 : Hid (Tch [] w W2) := T1.out.trans h2.out.2.2.1
  have hlen : (ipad (kindOf kt k s bl) key ++ ps.flatten).length ≤ 1099511627776 := by rw [List.length_append]; have := HPL.out; omega
  refine iaLoop _ W2 w ⟨rfl, rfl⟩ _ (kindOf kt k s bl) F _ _ _ ps _ MA T2.out HP.out hF hlen rfl rfl rfl rfl ?_
  rintro a3 W3 ⟨f3, s3, m3⟩
  have g7 : G a3 7 = .pointer (some ⟨F.m, 0, none⟩) := s3.get 7 rfl
  rw [lit26 a3 f3]
  simp only [g7]
  have HLEN := Lib.hid hlen
  have HOLN := Lib.hid hol
  clear f3 s3 g7 hlen hol hil hF MA
  go_wp2
  refine J2.out _ _ (wp_seq_k (fun K3 k3 => ?_))
  have J3 := Lib.hid k3
  clear k3
  go_wp2_with (fail)
  refine (macSum0 (kindOf kt k s bl) F _ _ _ [] (.slice none 0 0) W3 m3.out.1 h2.out.2.1 (Own.nil _) (by intro b hb; cases hb) HLEN.out (by have := HOLN.out; omega) (by simp)).mono ?_
  rintro e W4 ⟨v4, rfl, h4⟩
  go_wp2
  refine J3.out _ _ ?_
  go_wp2
  go_ret
  refine ⟨v4, rfl, h4.out.1, ?_, ?_⟩
  · refine m3.out.2.new h4.out.2.2.1 ?_
    have k1 := m3.out.1.k1
    intro i hi
    right
    have hi' : i = F.bo ∨ i = F.so := by simpa [Value.ownBlock] using hi
    rcases hi' with rfl | rfl
    · rcases hnew.out F.bo (by simp [HF.all]) with h | h
      · exact absurd h.symm k1.2.1
      · exact h
    · rcases hnew.out F.so (by simp [HF.all]) with h | h
      · exact absurd h.symm k1.2.2.1
      · exact h
  · rcases h4.out.2.2.2.2 with h | ⟨g, h, hg⟩
    · exact .inl h
    · exact .inr ⟨g, h, Nat.le_trans m3.out.2.size hg⟩
end Go.Proofs.Ytgomodhhomekpaa

/-
  laws.long.
-/
namespace Go.Proofs.Ytgomodhhomekpaa
open Go.RowKit Pu Ar
def LGP (a : Act) (w : World) (n i : Nat) (a' : Act) (w' : World) : Prop := Frm 19 a' ∧ Same [6, 7] a a' ∧ G a' 3 = .int .i64 n ∧ G a' 8 = .int .i64 ((i : Int) + 1) ∧ w' = w
def LGR (w : World) (a' : Act) (w' : World) : Prop := Frm 19 a' ∧ G a' 2 = .bool true ∧ w' = w
set_option maxRecDepth 100000 in
theorem lgRound (a : Act) (w : World) (h : Frm 19 a) (Q : Exit → Act → World → Prop) (b po i k cap n m : Nat) (p : Option Addr) (c : Nat)
    (hi : i < k) (hk : (k : Int) ≤ 9223372036854775807) (cu : w.cell? ⟨b, po + i, none⟩ = some (.slice p m c)) (hn : (n : Int) ≤ 1048576) (hm : (m : Int) ≤ 2147483647)
    (g3 : G a 3 = .int .i64 n) (g6 : G a 6 = .slice (some ⟨b, po, none⟩) k cap) (g7 : G a 7 = .int .i64 k) (g8 : G a 8 = .int .i64 i)
    (hQ : n + m ≤ 1048576 → ∀ a' w', LGP a w (n + m) i a' w' → Q .normal a' w') (hR : 1048576 < n + m → ∀ a' w', LGR w a' w' → Q .ret a' w') :
    (part (bodyOf Try.f25) [true, true, false, true, false, false]).wp Try.prog Q a w := by
  have hii : (i : Int) < k := by exact_mod_cast hi
  conv => arg 2; whnf
  rw [lit19 a h]
  simp only [g3, g6, g7, g8]
  have G6 := Lib.hid g6
  have G7 := Lib.hid g7
  clear h g3 g6 g7 g8
  by_cases ht : n + m ≤ 1048576
  · have hQ1 := hQ ht
    have htt : ¬ (1048576 : Int) < n + m := by omega
    clear hQ hR ht
    go_wp2
    have E6 := G6.out
    have E7 := G7.out
    exact ⟨⟨rfl, rfl⟩, ⟨E6.symm, E7.symm, trivial⟩, rfl, rfl, rfl⟩
  · have hQ1 := hR (by omega)
    have htt : (1048576 : Int) < n + m := by omega
    clear hQ hR ht
    go_wp2
    exact ⟨⟨rfl, rfl⟩, rfl, rfl⟩
def LGX (w : World) (a' : Act) (w' : World) : Prop := Frm 19 a' ∧ w' = w
set_option maxRecDepth 100000 in
theorem lgLeave (a : Act) (w : World) (h : Frm 19 a) (Q : Exit → Act → World → Prop) (k : Nat) (g7 : G a 7 = .int .i64 k) (g8 : G a 8 = .int .i64 k)
    (hQ : ∀ a' w', LGX w a' w' → Q (.exit 0) a' w') :
    (part (bodyOf Try.f25) [true, true, false, true, false, false]).wp Try.prog Q a w := by
  conv => arg 2; whnf
  rw [lit19 a h]
  simp only [g7, g8]
  clear h g7 g8
  go_wp2
  exact ⟨⟨rfl, rfl⟩, rfl⟩
theorem lgLoop_eq : part (bodyOf Try.f25) [true, true, false, true, false] = .loop (part (bodyOf Try.f25) [true, true, false, true, false, false]) := by kernel_rfl
structure LGI (a0 : Act) (w0 : World) (ps : List By) (i : Nat) (a : Act) (w : World) : Prop where
  frm : Frm 19 a
  same : Same [6, 7] a0 a
  le : i ≤ ps.length
  g8 : G a 8 = .int .i64 (i : Int)
  g3 : G a 3 = .int .i64 ((ps.take i).flatten.length : Nat)
  small : (ps.take i).flatten.length ≤ 1048576
  w : w = w0
theorem lgLoop (a : Act) (w : World) (h : Frm 19 a) (Q : Exit → Act → World → Prop) (ps : List By) (v : Value) (hP : PRd w v ps) (hs : ∀ p ∈ ps, p.length ≤ 2147483647)
    (g3 : G a 3 = .int .i64 0) (g6 : G a 6 = v) (g7 : G a 7 = .int .i64 ps.length) (g8 : G a 8 = .int .i64 0)
    (hQ : ps.flatten.length ≤ 1048576 → ∀ a' w', LGX w a' w' → Q (.exit 0) a' w') (hR : 1048576 < ps.flatten.length → ∀ a' w', LGR w a' w' → Q .ret a' w') :
    (part (bodyOf Try.f25) [true, true, false, true, false]).wp Try.prog Q a w := by
  rw [lgLoop_eq]
  obtain ⟨q, cap, hv, hcap, hmax, hrd⟩ := hP
  unfold maxLen at hmax
  refine wp_loop (fun a' w' => ∃ i, LGI a w ps i a' w') (fun a' _ => ps.length - (intOf (G a' 8)).toNat) ⟨0, h, by simp [Same], by omega, g8, by simpa using g3, by simp, rfl⟩ ?_
  rintro a1 w1 ⟨i, I⟩
  obtain rfl := I.w
  by_cases hi : i < ps.length
  · obtain ⟨pb, po, rfl, hcell⟩ : ∃ b o, q = some ⟨b, o, none⟩ ∧ ∀ i x, ps[i]? = some x → ∃ u, w1.cell? ⟨b, o + i, none⟩ = some u ∧ Rd w1 u x := by
      rcases hrd with h | h
      · rw [h] at hi; simp at hi
      · exact h
    obtain ⟨u, cu, p, c, rfl, _⟩ := hcell i _ (List.getElem?_eq_getElem hi)
    have ef : (ps.take (i + 1)).flatten.length = (ps.take i).flatten.length + ps[i].length := by
      rw [List.take_succ_eq_append_getElem hi, List.flatten_append, List.length_append]; simp
    have hm := hs ps[i] (List.getElem_mem hi)
    have hsm := I.small
    refine lgRound a1 w1 I.frm _ pb po i ps.length cap _ ps[i].length p c hi (by omega) cu (by omega) (by omega) I.g3 ((I.same.get 6 rfl).trans (g6.trans hv)) ((I.same.get 7 rfl).trans g7) I.g8 ?_ ?_
    · rintro hle a' w' ⟨p1, p2, p3, p4, rfl⟩
      simp only [Exit.then]
      refine ⟨⟨i + 1, p1, ?_, by omega, p4, by rw [p3, ef], by rw [ef]; exact hle, rfl⟩, ?_⟩
      · have s := I.same
        simp only [Same] at s p2 ⊢
        simp only [p2, s, and_self]
      · rw [p4, I.g8]; simp [intOf]; omega
    · rintro hgt a' w' hr
      simp only [Exit.then]
      refine hR ?_ _ _ hr
      have := flatten_take_le ps (i + 1)
      omega
  · have hi' : i = ps.length := by have := I.le; omega
    subst hi'
    refine lgLeave a1 w1 I.frm _ ps.length ((I.same.get 7 rfl).trans g7) I.g8 ?_
    rintro a' w' hx
    simp only [Exit.then]
    refine hQ ?_ _ _ hx
    have := I.small
    rwa [List.take_length] at this
set_option maxRecDepth 100000 in
/-- laws.long. -/
theorem lLong (ps : List By) (v : Value) (w : World) (hP : PRd w v ps) (hs : ∀ p ∈ ps, p.length ≤ 2147483647) :
    Calls Try.prog 25 #[v] w fun e w' => e = .returned (.bool (decide (1048576 < ps.flatten.length))) ∧ w = w' := by
  obtain ⟨q, cap, rfl, _⟩ := id hP
  have HP := Lib.hid hP
  have HS := Lib.hid hs
  clear hP hs
  go_enter Try.func25, Try.ntmps25
  go_wp2
  refine lgLoop _ _ ⟨rfl, rfl⟩ _ ps _ HP.out HS.out rfl rfl rfl rfl ?_ ?_
  · rintro hle a' w' ⟨f, rfl⟩
    have hd : Hid (decide (1048576 < ps.flatten.length) = false) := decide_eq_false (by omega)
    rw [lit19 a' f]
    clear f hle
    go_wp2
    go_ret
    refine ⟨?_, rfl⟩
    rw [hd.out]; rfl
  · rintro hgt a' w' ⟨f, g2, rfl⟩
    have hd : Hid (decide (1048576 < ps.flatten.length) = true) := decide_eq_true hgt
    rw [lit19 a' f]
    simp only [g2]
    clear f g2 hgt
    go_wp2
    go_ret
    refine ⟨?_, rfl⟩
    rw [hd.out]; rfl
end Go.Proofs.Ytgomodhhomekpaa

/-
  laws.same: two slices of bytes, held against each other as texts.
-/
namespace Go.Proofs.Ytgomodhhomekpaa
open Go.RowKit Pu Ar
/-- The text of the bytes. -/
def strOf (l : By) : ByteArray := (l.map (fun x => ib x)).foldl (fun r n => r.push (UInt8.ofNat n.toNat)) ByteArray.empty
theorem strOf_list (l : By) : (strOf l).data.toList = l := by
  have h : ∀ (l : By) (r : ByteArray), ((l.map (fun x => ib x)).foldl (fun r n => r.push (UInt8.ofNat n.toNat)) r).data.toList = r.data.toList ++ l := by
    intro l
    induction l with
    | nil => intro r; simp
    | cons x l ih =>
      intro r
      have e : UInt8.ofNat (ib x).toNat = x := by simp [ib]
      simp only [List.map_cons, List.foldl_cons]
      rw [ih]
      simp [ByteArray.push, e]
  have := h l ByteArray.empty
  simpa [strOf] using this
theorem run_string_of {w : World} {v : Value} {l : By} (h : Rd w v l) : (convert 24 9 v).run Try.prog w = .ok (.string (strOf l)) w := by
  obtain ⟨p, cap, rfl, hc, hm, hr⟩ := h
  rw [run_convert_bytes_string w 24 9 5 p l.length cap Try.underlying24 Try.underlying5 Try.underlying9]
  rcases hr with rfl | ⟨b, o, rfl, hr⟩
  · cases p with
    | none => simp [Conv.bytesToString, strOf, Sem.run_pure]
    | some a => exact run_bytesToString w a 0 cap [] (by simp [loadCells, loadCellsFrom, Sem.run_pure])
  · refine run_bytesToString w _ l.length cap (l.map (fun x => ib x)) ?_
    have := run_loadCells_list (P := Try.prog) w ⟨b, o, none⟩ (l.map vb) (fun j u hu => by
      rw [List.getElem?_map] at hu
      cases hx : l[j]? with
      | none => simp [hx] at hu
      | some x => simp [hx] at hu; subst hu; rw [add_lit']; exact hr j x hx)
    rw [List.length_map] at this
    rw [this, List.map_map]; rfl
set_option maxRecDepth 100000 in
/-- laws.same. -/
theorem lSame (u v : Value) (x y : By) (w : World) (hu : Rd w u x) (hv : Rd w v y) :
    Calls Try.prog 28 #[u, v] w fun e w' => e = .returned (.bool (decide (x = y))) ∧ w = w' := by
  have c1 := run_string_of hu
  have c2 := run_string_of hv
  clear hu hv
  go_enter Try.func28, Try.ntmps28
  go_wp2
  go_ret
  refine ⟨?_, rfl⟩
  have e : ((strOf x).toList == (strOf y).toList) = decide (x = y) := by
    rw [ByteArray.toList_eq, ByteArray.toList_eq, strOf_list, strOf_list]
    by_cases h : x = y
    · subst h; simp
    · rw [decide_eq_false h]; simpa using h
  rw [← e]; rfl
end Go.Proofs.Ytgomodhhomekpaa

/-
  What the rows' frames want: the arguments opened, the table out of the world's shape, the frame about a walk.
-/
namespace Go.Proofs.Ytgomodhhomekpaa
open Go.ChangeShapes Go.WideShapes Go.ChangeAt Go.RowKit Go.Joins Pu Ar
open Go.ChangeMaps (open_string shut_string)
set_option maxRecDepth 100000
theorem rOwn : ownKnob Try.prog.godebug = none := by kernel_rfl
theorem rLaid : laidOutB Try.prog = true := by kernel_rfl
theorem cHash : Try.prog.cellsOf 23 = 3 := by kernel_rfl
theorem cByte : Try.prog.cellsOf 5 = 1 := by kernel_rfl
/-- The table holds 64 words, whatever they are. -/
theorem kis_of_shape {W : World} (h : W.ShapedOpen Try.prog) : ∃ kt, KIs W kt := by
  have hz : (((begin Try.prog (fun _ _ => 0) default).world.heap[0]?).bind Obj.row?).map (fun x => (x.1.size, x.2)) = some (64, 117) := by kernel_rfl
  obtain ⟨⟨zero, t⟩, h0, h1⟩ := Option.map_eq_some_iff.1 hz
  simp only [Prod.mk.injEq] at h1
  obtain ⟨h1, rfl⟩ := h1
  obtain ⟨cs, hh, hs, hr⟩ := h.1 0 zero 117 (of_decide_eq_true (by kernel_rfl)) h0
  obtain ⟨ts, hts, _, hall⟩ := hr (by kernel_rfl)
  have e : Try.prog.cellTypes Try.prog.depth 117 = some (List.replicate 64 99) := by kernel_rfl
  rw [e] at hts
  obtain rfl := Option.some.inj hts
  have each : ∀ i (hi : i < cs.size), ∃ n : Nat, cs[i] = .int .u32 (n : Int) ∧ n < 4294967296 := by
    intro i hi
    obtain ⟨u, hu, hok⟩ := hall i cs[i] (by simp [hi])
    rw [List.getElem?_replicate] at hu
    split at hu
    · obtain rfl := Option.some.inj hu
      unfold Cell.ok at hok
      rw [Try.underlying99] at hok
      cases hv : cs[i] with
      | int k n =>
        rw [hv] at hok
        obtain ⟨rfl, hk⟩ := hok
        simp [IntKind.has, IntKind.signed, IntKind.bits, IntKind.min, IntKind.max] at hk
        exact ⟨n.toNat, by rw [Int.toNat_of_nonneg (by omega)], by omega⟩
      | _ => rw [hv] at hok; simp at hok
    · cases hu
  refine ⟨cs.toList.map (fun v => match v with | .int _ n => UInt32.ofNat n.toNat | _ => 0), by simp [hs, h1], ?_⟩
  unfold Row
  rw [hh]
  congr 2
  apply Array.ext
  · simp
  · intro i h2 h3
    obtain ⟨n, hn, hlt⟩ := each i h2
    simp only [List.map_map, List.getElem_toArray, List.getElem_map, Array.getElem_toList, Function.comp]
    rw [hn]
    simp [vw, iw, Nat.mod_eq_of_lt hlt]
variable {H : Type} {enc : TypeId × Value → H}
/-- A slice of bytes. -/
theorem open_by {W : World} {b0 : Nat} {v : Value} {d : DataW H} {p : List MemPlace} (hval : Value.okWide Try.prog W .any b0 24 v) (h : DataW.Trod enc Try.prog W 0 (fun _ => true) true 24 v d p) : ∃ l, Rd W v l := by
  obtain ⟨a0, len0, cap0, rfl⟩ := okWide_slice Try.underlying24 hval
  obtain ⟨fuel, hf⟩ := h
  rcases open_ints Try.underlying24 Try.underlying5 cByte hf with ⟨hcs, _⟩ | ⟨x, l, c, zs, hcs, _, hl, hm, hz, _, hcell, hwz⟩
  · simp [Value.cells] at hcs
    obtain ⟨rfl, rfl, rfl⟩ := hcs
    exact ⟨[], Rd.nil W⟩
  · simp [Value.cells] at hcs
    obtain ⟨rfl, rfl, rfl⟩ := hcs
    have hzl : zs.length = cap0 := by simpa using hz
    have hby : ∀ i, i < zs.length → (.int .u8 (zs.getD i 0) : Value) = vb (UInt8.ofNat (zs.getD i 0).toNat) := by
      intro i hi
      have hw := hwz (zs.getD i 0) (by rw [List.getD_eq_getElem?_getD, List.getElem?_eq_getElem hi]; exact List.getElem_mem hi)
      simp [Lit.wf, IntKind.min, IntKind.max, IntKind.signed, IntKind.bits] at hw
      have h1 : (zs.getD i 0).toNat % 256 = (zs.getD i 0).toNat := Nat.mod_eq_of_lt (by simp only [List.getD_eq_getElem?_getD] at hw ⊢; omega)
      have h2 : ((zs.getD i 0).toNat : Int) = zs.getD i 0 := Int.toNat_of_nonneg (by simp only [List.getD_eq_getElem?_getD] at hw ⊢; omega)
      unfold vb ib
      rw [UInt8.toNat_ofNat', h1, h2]
    refine ⟨(zs.take len0).map (fun z => UInt8.ofNat z.toNat), some x, cap0, by simp [hzl, Nat.min_eq_left hl], by simp [hzl]; omega, hm, ?_⟩
    by_cases h0 : len0 = 0
    · left; simp [h0]
    · right
      obtain ⟨b, off, spot⟩ := x
      have hc := hcell 0 (by omega)
      have hspot : spot = none := by simpa [Addr.add] using World.cell?_spot hc
      subst hspot
      refine ⟨b, off, rfl, fun i y hy => ?_⟩
      rw [List.getElem?_map, List.getElem?_take] at hy
      split at hy
      · have hi : i < zs.length := by omega
        have := hcell i hi
        rw [hby i hi, add_lit'] at this
        rw [List.getElem?_eq_getElem hi] at hy
        simp only [Option.map_some, Option.some.injEq] at hy
        rw [this, ← hy]
        simp [List.getD_eq_getElem?_getD, List.getElem?_eq_getElem hi]
      · cases hy
/-- A slice of bytes, nil or beginning at a cell. -/
theorem open_arg {W : World} {b0 : Nat} {v : Value} {d : DataW H} {p : List MemPlace} (hval : Value.okWide Try.prog W .any b0 24 v) (h : DataW.Trod enc Try.prog W 0 (fun _ => true) true 24 v d p) : ∃ l, Rd W v l ∧ Nm v := by
  obtain ⟨l, hl⟩ := open_by hval h
  refine ⟨l, hl, ?_⟩
  obtain ⟨p, cap, rfl, -⟩ := hl
  unfold Value.okWide at hval
  rw [Try.underlying24] at hval
  unfold Cell.okWide at hval
  rw [Try.underlying24] at hval
  unfold Cell.ok at hval
  rw [Try.underlying24] at hval
  cases p with
  | none =>
    left
    cases hl : l.length with
    | zero =>
      cases cap with
      | zero => rfl
      | succ c => rw [hl] at hval; simp at hval
    | succ n => rw [hl] at hval; simp at hval
  | some a =>
    right
    obtain ⟨b, o, spot⟩ := a
    obtain ⟨_, _, _, hsp, _⟩ := hval
    simp only at hsp
    subst hsp
    exact ⟨b, o, _, _, rfl⟩
/-- A hash's name. -/
theorem open_hash {W : World} {b0 : Nat} {v : Value} {d : DataW H} {p : List MemPlace} (hval : Value.okWide Try.prog W .any b0 23 v) (h : DataW.Trod enc Try.prog W 0 (fun _ => true) true 23 v d p) : ∃ k s bl : Int, v = .agg #[.int .i64 k, .int .i64 s, .int .i64 bl] := by
  obtain ⟨c0, c1, c2, y0, y1, y2, m, rfl, rfl, rfl, h0, h1, h2⟩ := open_agg3 Try.underlying23 (by kernel_rfl) cHash hval h
  obtain ⟨k, e0, -, -⟩ := DataW.trod_int Try.underlying3 h0
  obtain ⟨s, e1, -, -⟩ := DataW.trod_int Try.underlying3 h1
  obtain ⟨bl, e2, -, -⟩ := DataW.trod_int Try.underlying3 h2
  simp at e0 e1 e2
  exact ⟨k, s, bl, by rw [e0, e1, e2]⟩
/-- A small number. -/
theorem open_u16 {W : World} {b0 : Nat} {v : Value} {d : DataW H} {p : List MemPlace} (hval : Value.okWide Try.prog W .any b0 25 v) (h : DataW.Trod enc Try.prog W 0 (fun _ => true) true 25 v d p) : ∃ n : Nat, v = .int .u16 n ∧ n < 65536 := by
  obtain ⟨n, rfl, -, -, hw⟩ := open_int Try.underlying25 hval h
  simp [Lit.wf, IntKind.min, IntKind.max, IntKind.signed, IntKind.bits] at hw
  exact ⟨n.toNat, by rw [Int.toNat_of_nonneg (by omega)], by omega⟩
theorem open_u8 {W : World} {b0 : Nat} {v : Value} {d : DataW H} {p : List MemPlace} (hval : Value.okWide Try.prog W .any b0 5 v) (h : DataW.Trod enc Try.prog W 0 (fun _ => true) true 5 v d p) : ∃ n : UInt8, v = vb n := by
  obtain ⟨n, rfl, -, -, hw⟩ := open_int Try.underlying5 hval h
  simp [Lit.wf, IntKind.min, IntKind.max, IntKind.signed, IntKind.bits] at hw
  refine ⟨UInt8.ofNat n.toNat, ?_⟩
  unfold vb ib
  rw [UInt8.toNat_ofNat', Nat.mod_eq_of_lt (by omega), Int.toNat_of_nonneg (by omega)]
theorem open_str {W : World} {b0 : Nat} {v : Value} {d : DataW H} {p : List MemPlace} (hval : Value.okWide Try.prog W .any b0 9 v) (h : DataW.Trod enc Try.prog W 0 (fun _ => true) true 9 v d p) : ∃ s : ByteArray, v = .string s ∧ s.size ≤ maxLen := by
  obtain ⟨s, rfl, -, -, hs⟩ := open_string Try.underlying9 hval h
  exact ⟨s, rfl, hs⟩
/-- What was read before the call reads the same behind it. -/
theorem again {t : TypeId} {W W' : World} {v : Value} {d : DataW H} {p : List MemPlace} (hr : Try.prog.readableRec t = true) (ht : t < Try.prog.types.size) (h : DataW.Trod enc Try.prog W 0 (fun _ => true) true t v d p) (hb : Below W.heap.size W W') :
    DataW.Trod enc Try.prog W' 0 (fun b => decide (b < W.heap.size)) true t v d p := Below.trod rLaid hr ht h hb (by obtain ⟨m, hm⟩ := h; exact DataW.trod_lt m _ _ _ hm)
end Go.Proofs.Ytgomodhhomekpaa

/-
  The words of the translation's head, read once: the rows' closed facts lean on them.
-/
namespace Go.Proofs.Ytgomodhhomekpaa
open Go
set_option maxRecDepth 100000
section
variable {P : Program} {ws : List (List Char)}
theorem strip_cut (ws : List (List Char)) : stripLifts liftWords ([Char.ofNat 99, Char.ofNat 117, Char.ofNat 116] :: ws) = ([], [Char.ofNat 99, Char.ofNat 117, Char.ofNat 116] :: ws) := by kernel_rfl
theorem enter_of (h : behindMainWord (wordsSigns P.initOrder.toList) = [Char.ofNat 99, Char.ofNat 117, Char.ofNat 116] :: ws) (h1 : P.laysLater = false) (h2 : P.bearsReflect = false) (h3 : P.doorFits [] = true) : P.mayEnter = true := by
  have e : ([Char.ofNat 99, Char.ofNat 117, Char.ofNat 116] : List Char) = "cut".toList := by kernel_rfl
  unfold Program.mayEnter
  rw [h]
  simp only [strip_cut, h1, h2, h3]
  rw [e]
  simp
theorem lifts_of (h : behindMainWord (wordsSigns P.initOrder.toList) = [Char.ofNat 99, Char.ofNat 117, Char.ofNat 116] :: ws) : P.headLifts = [] := by
  unfold Program.headLifts
  rw [h]
  simp only [strip_cut]
  split <;> rfl
theorem final_of (h : behindMainWord (wordsSigns P.initOrder.toList) = [Char.ofNat 99, Char.ofNat 117, Char.ofNat 116] :: ws) : P.liftsFinal = false := by
  unfold Program.liftsFinal
  rw [lifts_of h, h]
  have e : ((([Char.ofNat 99, Char.ofNat 117, Char.ofNat 116] : List Char) :: ws).head? == some "carried".toList) = false := by kernel_rfl
  simp only [e]
  simp
theorem make_of (h : behindMainWord (wordsSigns P.initOrder.toList) = [Char.ofNat 99, Char.ofNat 117, Char.ofNat 116] :: ws) : P.make = some .cut := by
  unfold Program.make
  rw [h]
  have e1 : (([Char.ofNat 99, Char.ofNat 117, Char.ofNat 116] : List Char) == "gc".toList) = false := by kernel_rfl
  have e2 : (([Char.ofNat 99, Char.ofNat 117, Char.ofNat 116] : List Char) == "spec".toList) = false := by kernel_rfl
  have e3 : (([Char.ofNat 99, Char.ofNat 117, Char.ofNat 116] : List Char) == "cut".toList) = true := by kernel_rfl
  simp only [e1, e2, e3]
  simp
end
theorem seatOrder : Try.prog.initOrder.toList = [Char.ofNat 104, Char.ofNat 97, Char.ofNat 114, Char.ofNat 110, Char.ofNat 101, Char.ofNat 115, Char.ofNat 115, Char.ofNat 32, Char.ofNat 102, Char.ofNat 52, Char.ofNat 52, Char.ofNat 54, Char.ofNat 54, Char.ofNat 54, Char.ofNat 97, Char.ofNat 98, Char.ofNat 57, Char.ofNat 99, Char.ofNat 102, Char.ofNat 56, Char.ofNat 54, Char.ofNat 50, Char.ofNat 99, Char.ofNat 102, Char.ofNat 101, Char.ofNat 98, Char.ofNat 56, Char.ofNat 54, Char.ofNat 99, Char.ofNat 51, Char.ofNat 49, Char.ofNat 101, Char.ofNat 100, Char.ofNat 99, Char.ofNat 98, Char.ofNat 53, Char.ofNat 52, Char.ofNat 55, Char.ofNat 100, Char.ofNat 55, Char.ofNat 97, Char.ofNat 50, Char.ofNat 56, Char.ofNat 101, Char.ofNat 55, Char.ofNat 57, Char.ofNat 54, Char.ofNat 55, Char.ofNat 101, Char.ofNat 55, Char.ofNat 51, Char.ofNat 97, Char.ofNat 53, Char.ofNat 49, Char.ofNat 52, Char.ofNat 53, Char.ofNat 49, Char.ofNat 57, Char.ofNat 101, Char.ofNat 49, Char.ofNat 49, Char.ofNat 56, Char.ofNat 97, Char.ofNat 52, Char.ofNat 54, Char.ofNat 56, Char.ofNat 55, Char.ofNat 53, Char.ofNat 49, Char.ofNat 50, Char.ofNat 55, Char.ofNat 53, Char.ofNat 32, Char.ofNat 99, Char.ofNat 117, Char.ofNat 116, Char.ofNat 32] ++ [Char.ofNat 97, Char.ofNat 116, Char.ofNat 32, Char.ofNat 108, Char.ofNat 111, Char.ofNat 111, Char.ofNat 112, Char.ofNat 46, Char.ofNat 101, Char.ofNat 120, Char.ofNat 97, Char.ofNat 109, Char.ofNat 112, Char.ofNat 108, Char.ofNat 101, Char.ofNat 47, Char.ofNat 112, Char.ofNat 117, Char.ofNat 98, Char.ofNat 45, Char.ofNat 103, Char.ofNat 48, Char.ofNat 51, Char.ofNat 49, Char.ofNat 50, Char.ofNat 56, Char.ofNat 47, Char.ofNat 108, Char.ofNat 97, Char.ofNat 119, Char.ofNat 115, Char.ofNat 46, Char.ofNat 70, Char.ofNat 110, Char.ofNat 67, Char.ofNat 117, Char.ofNat 116, Char.ofNat 115, Char.ofNat 32, Char.ofNat 108, Char.ofNat 111, Char.ofNat 111, Char.ofNat 112, Char.ofNat 46, Char.ofNat 101, Char.ofNat 120, Char.ofNat 97, Char.ofNat 109, Char.ofNat 112, Char.ofNat 108, Char.ofNat 101, Char.ofNat 47, Char.ofNat 112, Char.ofNat 117, Char.ofNat 98, Char.ofNat 45, Char.ofNat 103, Char.ofNat 48, Char.ofNat 51, Char.ofNat 49, Char.ofNat 50, Char.ofNat 56, Char.ofNat 47, Char.ofNat 108, Char.ofNat 97, Char.ofNat 119, Char.ofNat 115, Char.ofNat 46, Char.ofNat 70, Char.ofNat 110, Char.ofNat 66, Char.ofNat 111, Char.ofNat 116, Char.ofNat 104, Char.ofNat 32, Char.ofNat 108, Char.ofNat 111, Char.ofNat 111, Char.ofNat 112, Char.ofNat 46, Char.ofNat 101, Char.ofNat 120, Char.ofNat 97, Char.ofNat 109, Char.ofNat 112, Char.ofNat 108, Char.ofNat 101, Char.ofNat 47, Char.ofNat 112, Char.ofNat 117, Char.ofNat 98, Char.ofNat 45, Char.ofNat 103, Char.ofNat 48, Char.ofNat 51, Char.ofNat 49, Char.ofNat 50, Char.ofNat 56, Char.ofNat 47, Char.ofNat 108, Char.ofNat 97, Char.ofNat 119, Char.ofNat 115, Char.ofNat 46, Char.ofNat 70, Char.ofNat 110, Char.ofNat 77, Char.ofNat 97, Char.ofNat 99, Char.ofNat 32, Char.ofNat 108, Char.ofNat 111, Char.ofNat 111, Char.ofNat 112, Char.ofNat 46, Char.ofNat 101, Char.ofNat 120, Char.ofNat 97, Char.ofNat 109, Char.ofNat 112, Char.ofNat 108, Char.ofNat 101, Char.ofNat 47, Char.ofNat 112, Char.ofNat 117, Char.ofNat 98, Char.ofNat 45, Char.ofNat 103, Char.ofNat 48, Char.ofNat 51, Char.ofNat 49, Char.ofNat 50, Char.ofNat 56, Char.ofNat 47, Char.ofNat 108, Char.ofNat 97, Char.ofNat 119, Char.ofNat 115, Char.ofNat 46, Char.ofNat 70, Char.ofNat 110, Char.ofNat 78, Char.ofNat 111, Char.ofNat 117, Char.ofNat 103, Char.ofNat 104, Char.ofNat 116, Char.ofNat 115, Char.ofNat 32, Char.ofNat 108, Char.ofNat 111, Char.ofNat 111, Char.ofNat 112, Char.ofNat 46, Char.ofNat 101, Char.ofNat 120, Char.ofNat 97, Char.ofNat 109, Char.ofNat 112, Char.ofNat 108, Char.ofNat 101, Char.ofNat 47, Char.ofNat 112, Char.ofNat 117, Char.ofNat 98, Char.ofNat 45, Char.ofNat 103, Char.ofNat 48, Char.ofNat 51, Char.ofNat 49, Char.ofNat 50, Char.ofNat 56, Char.ofNat 47, Char.ofNat 108, Char.ofNat 97, Char.ofNat 119, Char.ofNat 115, Char.ofNat 46, Char.ofNat 70, Char.ofNat 110, Char.ofNat 79, Char.ofNat 110, Char.ofNat 99, Char.ofNat 101, Char.ofNat 32, Char.ofNat 108, Char.ofNat 111, Char.ofNat 111, Char.ofNat 112, Char.ofNat 46, Char.ofNat 101, Char.ofNat 120, Char.ofNat 97, Char.ofNat 109, Char.ofNat 112, Char.ofNat 108, Char.ofNat 101, Char.ofNat 47, Char.ofNat 112, Char.ofNat 117, Char.ofNat 98, Char.ofNat 45, Char.ofNat 103, Char.ofNat 48, Char.ofNat 51, Char.ofNat 49, Char.ofNat 50, Char.ofNat 56, Char.ofNat 47, Char.ofNat 108, Char.ofNat 97, Char.ofNat 119, Char.ofNat 115, Char.ofNat 46, Char.ofNat 70, Char.ofNat 110, Char.ofNat 83, Char.ofNat 116, Char.ofNat 101, Char.ofNat 112, Char.ofNat 115, Char.ofNat 32, Char.ofNat 108, Char.ofNat 111, Char.ofNat 111, Char.ofNat 112, Char.ofNat 46, Char.ofNat 101, Char.ofNat 120, Char.ofNat 97, Char.ofNat 109, Char.ofNat 112, Char.ofNat 108, Char.ofNat 101, Char.ofNat 47, Char.ofNat 112, Char.ofNat 117, Char.ofNat 98, Char.ofNat 45, Char.ofNat 103, Char.ofNat 48, Char.ofNat 51, Char.ofNat 49, Char.ofNat 50, Char.ofNat 56, Char.ofNat 47, Char.ofNat 108, Char.ofNat 97, Char.ofNat 119, Char.ofNat 115, Char.ofNat 46, Char.ofNat 70, Char.ofNat 110, Char.ofNat 82, Char.ofNat 111, Char.ofNat 117, Char.ofNat 110, Char.ofNat 100, Char.ofNat 115, Char.ofNat 32, Char.ofNat 108, Char.ofNat 111, Char.ofNat 111, Char.ofNat 112, Char.ofNat 46, Char.ofNat 101, Char.ofNat 120, Char.ofNat 97, Char.ofNat 109, Char.ofNat 112, Char.ofNat 108, Char.ofNat 101, Char.ofNat 47, Char.ofNat 112, Char.ofNat 117, Char.ofNat 98, Char.ofNat 45, Char.ofNat 103, Char.ofNat 48, Char.ofNat 51, Char.ofNat 49, Char.ofNat 50, Char.ofNat 56, Char.ofNat 47, Char.ofNat 108, Char.ofNat 97, Char.ofNat 119, Char.ofNat 115, Char.ofNat 46, Char.ofNat 70, Char.ofNat 110, Char.ofNat 83, Char.ofNat 105, Char.ofNat 122, Char.ofNat 101, Char.ofNat 115, Char.ofNat 32, Char.ofNat 108, Char.ofNat 111, Char.ofNat 111, Char.ofNat 112, Char.ofNat 46, Char.ofNat 101, Char.ofNat 120, Char.ofNat 97, Char.ofNat 109, Char.ofNat 112, Char.ofNat 108, Char.ofNat 101, Char.ofNat 47, Char.ofNat 112, Char.ofNat 117, Char.ofNat 98, Char.ofNat 45, Char.ofNat 103, Char.ofNat 48, Char.ofNat 51, Char.ofNat 49, Char.ofNat 50, Char.ofNat 56, Char.ofNat 47, Char.ofNat 108, Char.ofNat 97, Char.ofNat 119, Char.ofNat 115, Char.ofNat 46, Char.ofNat 70, Char.ofNat 110, Char.ofNat 65, Char.ofNat 103, Char.ofNat 97, Char.ofNat 105, Char.ofNat 110, Char.ofNat 32, Char.ofNat 108, Char.ofNat 111, Char.ofNat 111, Char.ofNat 112, Char.ofNat 46, Char.ofNat 101, Char.ofNat 120, Char.ofNat 97, Char.ofNat 109, Char.ofNat 112, Char.ofNat 108, Char.ofNat 101, Char.ofNat 47, Char.ofNat 112, Char.ofNat 117, Char.ofNat 98, Char.ofNat 45, Char.ofNat 103, Char.ofNat 48, Char.ofNat 51, Char.ofNat 49, Char.ofNat 50, Char.ofNat 56, Char.ofNat 47, Char.ofNat 108, Char.ofNat 97, Char.ofNat 119, Char.ofNat 115, Char.ofNat 46, Char.ofNat 70, Char.ofNat 110, Char.ofNat 69, Char.ofNat 120, Char.ofNat 116, Char.ofNat 114, Char.ofNat 97, Char.ofNat 99, Char.ofNat 116, Char.ofNat 32, Char.ofNat 108, Char.ofNat 111, Char.ofNat 111, Char.ofNat 112, Char.ofNat 46, Char.ofNat 101, Char.ofNat 120, Char.ofNat 97, Char.ofNat 109, Char.ofNat 112, Char.ofNat 108, Char.ofNat 101, Char.ofNat 47, Char.ofNat 112, Char.ofNat 117, Char.ofNat 98, Char.ofNat 45, Char.ofNat 103, Char.ofNat 48, Char.ofNat 51, Char.ofNat 49, Char.ofNat 50, Char.ofNat 56, Char.ofNat 47, Char.ofNat 108, Char.ofNat 97, Char.ofNat 119, Char.ofNat 115, Char.ofNat 46, Char.ofNat 70, Char.ofNat 110, Char.ofNat 78, Char.ofNat 111, Char.ofNat 83, Char.ofNat 97, Char.ofNat 108, Char.ofNat 116, Char.ofNat 32, Char.ofNat 108, Char.ofNat 111, Char.ofNat 111, Char.ofNat 112, Char.ofNat 46, Char.ofNat 101, Char.ofNat 120, Char.ofNat 97, Char.ofNat 109, Char.ofNat 112, Char.ofNat 108, Char.ofNat 101, Char.ofNat 47, Char.ofNat 112, Char.ofNat 117, Char.ofNat 98, Char.ofNat 45, Char.ofNat 103, Char.ofNat 48, Char.ofNat 51, Char.ofNat 49, Char.ofNat 50, Char.ofNat 56, Char.ofNat 47, Char.ofNat 108, Char.ofNat 97, Char.ofNat 119, Char.ofNat 115, Char.ofNat 46, Char.ofNat 70, Char.ofNat 110, Char.ofNat 69, Char.ofNat 120, Char.ofNat 112, Char.ofNat 97, Char.ofNat 110, Char.ofNat 100, Char.ofNat 32, Char.ofNat 108, Char.ofNat 111, Char.ofNat 111, Char.ofNat 112, Char.ofNat 46, Char.ofNat 101, Char.ofNat 120, Char.ofNat 97, Char.ofNat 109, Char.ofNat 112, Char.ofNat 108, Char.ofNat 101, Char.ofNat 47, Char.ofNat 112, Char.ofNat 117, Char.ofNat 98, Char.ofNat 45, Char.ofNat 103, Char.ofNat 48, Char.ofNat 51, Char.ofNat 49, Char.ofNat 50, Char.ofNat 56, Char.ofNat 47, Char.ofNat 108, Char.ofNat 97, Char.ofNat 119, Char.ofNat 115, Char.ofNat 46, Char.ofNat 70, Char.ofNat 110, Char.ofNat 80, Char.ofNat 114, Char.ofNat 101, Char.ofNat 102, Char.ofNat 105, Char.ofNat 120, Char.ofNat 32, Char.ofNat 108, Char.ofNat 111, Char.ofNat 111, Char.ofNat 112, Char.ofNat 46, Char.ofNat 101, Char.ofNat 120, Char.ofNat 97, Char.ofNat 109, Char.ofNat 112, Char.ofNat 108, Char.ofNat 101, Char.ofNat 47, Char.ofNat 112, Char.ofNat 117, Char.ofNat 98, Char.ofNat 45, Char.ofNat 103, Char.ofNat 48, Char.ofNat 51, Char.ofNat 49, Char.ofNat 50, Char.ofNat 56, Char.ofNat 47, Char.ofNat 108, Char.ofNat 97, Char.ofNat 119, Char.ofNat 115, Char.ofNat 46, Char.ofNat 70, Char.ofNat 110, Char.ofNat 73, Char.ofNat 115, Char.ofNat 77, Char.ofNat 97, Char.ofNat 99, Char.ofNat 32, Char.ofNat 108, Char.ofNat 111, Char.ofNat 111, Char.ofNat 112, Char.ofNat 46, Char.ofNat 101, Char.ofNat 120, Char.ofNat 97, Char.ofNat 109, Char.ofNat 112, Char.ofNat 108, Char.ofNat 101, Char.ofNat 47, Char.ofNat 112, Char.ofNat 117, Char.ofNat 98, Char.ofNat 45, Char.ofNat 103, Char.ofNat 48, Char.ofNat 51, Char.ofNat 49, Char.ofNat 50, Char.ofNat 56, Char.ofNat 47, Char.ofNat 108, Char.ofNat 97, Char.ofNat 119, Char.ofNat 115, Char.ofNat 46, Char.ofNat 70, Char.ofNat 110, Char.ofNat 66, Char.ofNat 108, Char.ofNat 111, Char.ofNat 99, Char.ofNat 107, Char.ofNat 115, Char.ofNat 32, Char.ofNat 108, Char.ofNat 111, Char.ofNat 111, Char.ofNat 112, Char.ofNat 46, Char.ofNat 101, Char.ofNat 120, Char.ofNat 97, Char.ofNat 109, Char.ofNat 112, Char.ofNat 108, Char.ofNat 101, Char.ofNat 47, Char.ofNat 112, Char.ofNat 117, Char.ofNat 98, Char.ofNat 45, Char.ofNat 103, Char.ofNat 48, Char.ofNat 51, Char.ofNat 49, Char.ofNat 50, Char.ofNat 56, Char.ofNat 47, Char.ofNat 108, Char.ofNat 97, Char.ofNat 119, Char.ofNat 115, Char.ofNat 46, Char.ofNat 70, Char.ofNat 110, Char.ofNat 77, Char.ofNat 111, Char.ofNat 115, Char.ofNat 116, Char.ofNat 32, Char.ofNat 108, Char.ofNat 111, Char.ofNat 111, Char.ofNat 112, Char.ofNat 46, Char.ofNat 101, Char.ofNat 120, Char.ofNat 97, Char.ofNat 109, Char.ofNat 112, Char.ofNat 108, Char.ofNat 101, Char.ofNat 47, Char.ofNat 112, Char.ofNat 117, Char.ofNat 98, Char.ofNat 45, Char.ofNat 103, Char.ofNat 48, Char.ofNat 51, Char.ofNat 49, Char.ofNat 50, Char.ofNat 56, Char.ofNat 47, Char.ofNat 108, Char.ofNat 97, Char.ofNat 119, Char.ofNat 115, Char.ofNat 46, Char.ofNat 70, Char.ofNat 110, Char.ofNat 75, Char.ofNat 101, Char.ofNat 121, Char.ofNat 32, Char.ofNat 108, Char.ofNat 111, Char.ofNat 111, Char.ofNat 112, Char.ofNat 46, Char.ofNat 101, Char.ofNat 120, Char.ofNat 97, Char.ofNat 109, Char.ofNat 112, Char.ofNat 108, Char.ofNat 101, Char.ofNat 47, Char.ofNat 112, Char.ofNat 117, Char.ofNat 98, Char.ofNat 45, Char.ofNat 103, Char.ofNat 48, Char.ofNat 51, Char.ofNat 49, Char.ofNat 50, Char.ofNat 56, Char.ofNat 47, Char.ofNat 108, Char.ofNat 97, Char.ofNat 119, Char.ofNat 115, Char.ofNat 46, Char.ofNat 70, Char.ofNat 110, Char.ofNat 68, Char.ofNat 101, Char.ofNat 114, Char.ofNat 105, Char.ofNat 118, Char.ofNat 101, Char.ofNat 32, Char.ofNat 108, Char.ofNat 111, Char.ofNat 111, Char.ofNat 112, Char.ofNat 46, Char.ofNat 101, Char.ofNat 120, Char.ofNat 97, Char.ofNat 109, Char.ofNat 112, Char.ofNat 108, Char.ofNat 101, Char.ofNat 47, Char.ofNat 112, Char.ofNat 117, Char.ofNat 98, Char.ofNat 45, Char.ofNat 103, Char.ofNat 48, Char.ofNat 51, Char.ofNat 49, Char.ofNat 50, Char.ofNat 56, Char.ofNat 47, Char.ofNat 108, Char.ofNat 97, Char.ofNat 119, Char.ofNat 115, Char.ofNat 46, Char.ofNat 70, Char.ofNat 110, Char.ofNat 68, Char.ofNat 101, Char.ofNat 114, Char.ofNat 105, Char.ofNat 118, Char.ofNat 101, Char.ofNat 80, Char.ofNat 114, Char.ofNat 101, Char.ofNat 102, Char.ofNat 105, Char.ofNat 120, Char.ofNat 32, Char.ofNat 108, Char.ofNat 111, Char.ofNat 111, Char.ofNat 112, Char.ofNat 46, Char.ofNat 101, Char.ofNat 120, Char.ofNat 97, Char.ofNat 109, Char.ofNat 112, Char.ofNat 108, Char.ofNat 101, Char.ofNat 47, Char.ofNat 112, Char.ofNat 117, Char.ofNat 98, Char.ofNat 45, Char.ofNat 103, Char.ofNat 48, Char.ofNat 51, Char.ofNat 49, Char.ofNat 50, Char.ofNat 56, Char.ofNat 47, Char.ofNat 108, Char.ofNat 97, Char.ofNat 119, Char.ofNat 115, Char.ofNat 46, Char.ofNat 70, Char.ofNat 110, Char.ofNat 80, Char.ofNat 97, Char.ofNat 115, Char.ofNat 115, Char.ofNat 119, Char.ofNat 111, Char.ofNat 114, Char.ofNat 100, Char.ofNat 78, Char.ofNat 111, Char.ofNat 117, Char.ofNat 103, Char.ofNat 104, Char.ofNat 116, Char.ofNat 115, Char.ofNat 32, Char.ofNat 108, Char.ofNat 111, Char.ofNat 111, Char.ofNat 112, Char.ofNat 46, Char.ofNat 101, Char.ofNat 120, Char.ofNat 97, Char.ofNat 109, Char.ofNat 112, Char.ofNat 108, Char.ofNat 101, Char.ofNat 47, Char.ofNat 112, Char.ofNat 117, Char.ofNat 98, Char.ofNat 45, Char.ofNat 103, Char.ofNat 48, Char.ofNat 51, Char.ofNat 49, Char.ofNat 50, Char.ofNat 56, Char.ofNat 47, Char.ofNat 108, Char.ofNat 97, Char.ofNat 119, Char.ofNat 115, Char.ofNat 46, Char.ofNat 70, Char.ofNat 110, Char.ofNat 82, Char.ofNat 101, Char.ofNat 102, Char.ofNat 117, Char.ofNat 115, Char.ofNat 101, Char.ofNat 100, Char.ofNat 32, Char.ofNat 108, Char.ofNat 111, Char.ofNat 111, Char.ofNat 112, Char.ofNat 46, Char.ofNat 101, Char.ofNat 120, Char.ofNat 97, Char.ofNat 109, Char.ofNat 112, Char.ofNat 108, Char.ofNat 101, Char.ofNat 47, Char.ofNat 112, Char.ofNat 117, Char.ofNat 98, Char.ofNat 45, Char.ofNat 103, Char.ofNat 48, Char.ofNat 51, Char.ofNat 49, Char.ofNat 50, Char.ofNat 56, Char.ofNat 47, Char.ofNat 108, Char.ofNat 97, Char.ofNat 119, Char.ofNat 115, Char.ofNat 46, Char.ofNat 70, Char.ofNat 110, Char.ofNat 84, Char.ofNat 111, Char.ofNat 111, Char.ofNat 76, Char.ofNat 111, Char.ofNat 110, Char.ofNat 103] := by
  rw [show Try.prog.initOrder = String.ofList ([Char.ofNat 104, Char.ofNat 97, Char.ofNat 114, Char.ofNat 110, Char.ofNat 101, Char.ofNat 115, Char.ofNat 115, Char.ofNat 32, Char.ofNat 102, Char.ofNat 52, Char.ofNat 52, Char.ofNat 54, Char.ofNat 54, Char.ofNat 54, Char.ofNat 97, Char.ofNat 98, Char.ofNat 57, Char.ofNat 99, Char.ofNat 102, Char.ofNat 56, Char.ofNat 54, Char.ofNat 50, Char.ofNat 99, Char.ofNat 102, Char.ofNat 101, Char.ofNat 98, Char.ofNat 56, Char.ofNat 54, Char.ofNat 99, Char.ofNat 51, Char.ofNat 49, Char.ofNat 101, Char.ofNat 100, Char.ofNat 99, Char.ofNat 98, Char.ofNat 53, Char.ofNat 52, Char.ofNat 55, Char.ofNat 100, Char.ofNat 55, Char.ofNat 97, Char.ofNat 50, Char.ofNat 56, Char.ofNat 101, Char.ofNat 55, Char.ofNat 57, Char.ofNat 54, Char.ofNat 55, Char.ofNat 101, Char.ofNat 55, Char.ofNat 51, Char.ofNat 97, Char.ofNat 53, Char.ofNat 49, Char.ofNat 52, Char.ofNat 53, Char.ofNat 49, Char.ofNat 57, Char.ofNat 101, Char.ofNat 49, Char.ofNat 49, Char.ofNat 56, Char.ofNat 97, Char.ofNat 52, Char.ofNat 54, Char.ofNat 56, Char.ofNat 55, Char.ofNat 53, Char.ofNat 49, Char.ofNat 50, Char.ofNat 55, Char.ofNat 53, Char.ofNat 32, Char.ofNat 99, Char.ofNat 117, Char.ofNat 116, Char.ofNat 32] ++ [Char.ofNat 97, Char.ofNat 116, Char.ofNat 32, Char.ofNat 108, Char.ofNat 111, Char.ofNat 111, Char.ofNat 112, Char.ofNat 46, Char.ofNat 101, Char.ofNat 120, Char.ofNat 97, Char.ofNat 109, Char.ofNat 112, Char.ofNat 108, Char.ofNat 101, Char.ofNat 47, Char.ofNat 112, Char.ofNat 117, Char.ofNat 98, Char.ofNat 45, Char.ofNat 103, Char.ofNat 48, Char.ofNat 51, Char.ofNat 49, Char.ofNat 50, Char.ofNat 56, Char.ofNat 47, Char.ofNat 108, Char.ofNat 97, Char.ofNat 119, Char.ofNat 115, Char.ofNat 46, Char.ofNat 70, Char.ofNat 110, Char.ofNat 67, Char.ofNat 117, Char.ofNat 116, Char.ofNat 115, Char.ofNat 32, Char.ofNat 108, Char.ofNat 111, Char.ofNat 111, Char.ofNat 112, Char.ofNat 46, Char.ofNat 101, Char.ofNat 120, Char.ofNat 97, Char.ofNat 109, Char.ofNat 112, Char.ofNat 108, Char.ofNat 101, Char.ofNat 47, Char.ofNat 112, Char.ofNat 117, Char.ofNat 98, Char.ofNat 45, Char.ofNat 103, Char.ofNat 48, Char.ofNat 51, Char.ofNat 49, Char.ofNat 50, Char.ofNat 56, Char.ofNat 47, Char.ofNat 108, Char.ofNat 97, Char.ofNat 119, Char.ofNat 115, Char.ofNat 46, Char.ofNat 70, Char.ofNat 110, Char.ofNat 66, Char.ofNat 111, Char.ofNat 116, Char.ofNat 104, Char.ofNat 32, Char.ofNat 108, Char.ofNat 111, Char.ofNat 111, Char.ofNat 112, Char.ofNat 46, Char.ofNat 101, Char.ofNat 120, Char.ofNat 97, Char.ofNat 109, Char.ofNat 112, Char.ofNat 108, Char.ofNat 101, Char.ofNat 47, Char.ofNat 112, Char.ofNat 117, Char.ofNat 98, Char.ofNat 45, Char.ofNat 103, Char.ofNat 48, Char.ofNat 51, Char.ofNat 49, Char.ofNat 50, Char.ofNat 56, Char.ofNat 47, Char.ofNat 108, Char.ofNat 97, Char.ofNat 119, Char.ofNat 115, Char.ofNat 46, Char.ofNat 70, Char.ofNat 110, Char.ofNat 77, Char.ofNat 97, Char.ofNat 99, Char.ofNat 32, Char.ofNat 108, Char.ofNat 111, Char.ofNat 111, Char.ofNat 112, Char.ofNat 46, Char.ofNat 101, Char.ofNat 120, Char.ofNat 97, Char.ofNat 109, Char.ofNat 112, Char.ofNat 108, Char.ofNat 101, Char.ofNat 47, Char.ofNat 112, Char.ofNat 117, Char.ofNat 98, Char.ofNat 45, Char.ofNat 103, Char.ofNat 48, Char.ofNat 51, Char.ofNat 49, Char.ofNat 50, Char.ofNat 56, Char.ofNat 47, Char.ofNat 108, Char.ofNat 97, Char.ofNat 119, Char.ofNat 115, Char.ofNat 46, Char.ofNat 70, Char.ofNat 110, Char.ofNat 78, Char.ofNat 111, Char.ofNat 117, Char.ofNat 103, Char.ofNat 104, Char.ofNat 116, Char.ofNat 115, Char.ofNat 32, Char.ofNat 108, Char.ofNat 111, Char.ofNat 111, Char.ofNat 112, Char.ofNat 46, Char.ofNat 101, Char.ofNat 120, Char.ofNat 97, Char.ofNat 109, Char.ofNat 112, Char.ofNat 108, Char.ofNat 101, Char.ofNat 47, Char.ofNat 112, Char.ofNat 117, Char.ofNat 98, Char.ofNat 45, Char.ofNat 103, Char.ofNat 48, Char.ofNat 51, Char.ofNat 49, Char.ofNat 50, Char.ofNat 56, Char.ofNat 47, Char.ofNat 108, Char.ofNat 97, Char.ofNat 119, Char.ofNat 115, Char.ofNat 46, Char.ofNat 70, Char.ofNat 110, Char.ofNat 79, Char.ofNat 110, Char.ofNat 99, Char.ofNat 101, Char.ofNat 32, Char.ofNat 108, Char.ofNat 111, Char.ofNat 111, Char.ofNat 112, Char.ofNat 46, Char.ofNat 101, Char.ofNat 120, Char.ofNat 97, Char.ofNat 109, Char.ofNat 112, Char.ofNat 108, Char.ofNat 101, Char.ofNat 47, Char.ofNat 112, Char.ofNat 117, Char.ofNat 98, Char.ofNat 45, Char.ofNat 103, Char.ofNat 48, Char.ofNat 51, Char.ofNat 49, Char.ofNat 50, Char.ofNat 56, Char.ofNat 47, Char.ofNat 108, Char.ofNat 97, Char.ofNat 119, Char.ofNat 115, Char.ofNat 46, Char.ofNat 70, Char.ofNat 110, Char.ofNat 83, Char.ofNat 116, Char.ofNat 101, Char.ofNat 112, Char.ofNat 115, Char.ofNat 32, Char.ofNat 108, Char.ofNat 111, Char.ofNat 111, Char.ofNat 112, Char.ofNat 46, Char.ofNat 101, Char.ofNat 120, Char.ofNat 97, Char.ofNat 109, Char.ofNat 112, Char.ofNat 108, Char.ofNat 101, Char.ofNat 47, Char.ofNat 112, Char.ofNat 117, Char.ofNat 98, Char.ofNat 45, Char.ofNat 103, Char.ofNat 48, Char.ofNat 51, Char.ofNat 49, Char.ofNat 50, Char.ofNat 56, Char.ofNat 47, Char.ofNat 108, Char.ofNat 97, Char.ofNat 119, Char.ofNat 115, Char.ofNat 46, Char.ofNat 70, Char.ofNat 110, Char.ofNat 82, Char.ofNat 111, Char.ofNat 117, Char.ofNat 110, Char.ofNat 100, Char.ofNat 115, Char.ofNat 32, Char.ofNat 108, Char.ofNat 111, Char.ofNat 111, Char.ofNat 112, Char.ofNat 46, Char.ofNat 101, Char.ofNat 120, Char.ofNat 97, Char.ofNat 109, Char.ofNat 112, Char.ofNat 108, Char.ofNat 101, Char.ofNat 47, Char.ofNat 112, Char.ofNat 117, Char.ofNat 98, Char.ofNat 45, Char.ofNat 103, Char.ofNat 48, Char.ofNat 51, Char.ofNat 49, Char.ofNat 50, Char.ofNat 56, Char.ofNat 47, Char.ofNat 108, Char.ofNat 97, Char.ofNat 119, Char.ofNat 115, Char.ofNat 46, Char.ofNat 70, Char.ofNat 110, Char.ofNat 83, Char.ofNat 105, Char.ofNat 122, Char.ofNat 101, Char.ofNat 115, Char.ofNat 32, Char.ofNat 108, Char.ofNat 111, Char.ofNat 111, Char.ofNat 112, Char.ofNat 46, Char.ofNat 101, Char.ofNat 120, Char.ofNat 97, Char.ofNat 109, Char.ofNat 112, Char.ofNat 108, Char.ofNat 101, Char.ofNat 47, Char.ofNat 112, Char.ofNat 117, Char.ofNat 98, Char.ofNat 45, Char.ofNat 103, Char.ofNat 48, Char.ofNat 51, Char.ofNat 49, Char.ofNat 50, Char.ofNat 56, Char.ofNat 47, Char.ofNat 108, Char.ofNat 97, Char.ofNat 119, Char.ofNat 115, Char.ofNat 46, Char.ofNat 70, Char.ofNat 110, Char.ofNat 65, Char.ofNat 103, Char.ofNat 97, Char.ofNat 105, Char.ofNat 110, Char.ofNat 32, Char.ofNat 108, Char.ofNat 111, Char.ofNat 111, Char.ofNat 112, Char.ofNat 46, Char.ofNat 101, Char.ofNat 120, Char.ofNat 97, Char.ofNat 109, Char.ofNat 112, Char.ofNat 108, Char.ofNat 101, Char.ofNat 47, Char.ofNat 112, Char.ofNat 117, Char.ofNat 98, Char.ofNat 45, Char.ofNat 103, Char.ofNat 48, Char.ofNat 51, Char.ofNat 49, Char.ofNat 50, Char.ofNat 56, Char.ofNat 47, Char.ofNat 108, Char.ofNat 97, Char.ofNat 119, Char.ofNat 115, Char.ofNat 46, Char.ofNat 70, Char.ofNat 110, Char.ofNat 69, Char.ofNat 120, Char.ofNat 116, Char.ofNat 114, Char.ofNat 97, Char.ofNat 99, Char.ofNat 116, Char.ofNat 32, Char.ofNat 108, Char.ofNat 111, Char.ofNat 111, Char.ofNat 112, Char.ofNat 46, Char.ofNat 101, Char.ofNat 120, Char.ofNat 97, Char.ofNat 109, Char.ofNat 112, Char.ofNat 108, Char.ofNat 101, Char.ofNat 47, Char.ofNat 112, Char.ofNat 117, Char.ofNat 98, Char.ofNat 45, Char.ofNat 103, Char.ofNat 48, Char.ofNat 51, Char.ofNat 49, Char.ofNat 50, Char.ofNat 56, Char.ofNat 47, Char.ofNat 108, Char.ofNat 97, Char.ofNat 119, Char.ofNat 115, Char.ofNat 46, Char.ofNat 70, Char.ofNat 110, Char.ofNat 78, Char.ofNat 111, Char.ofNat 83, Char.ofNat 97, Char.ofNat 108, Char.ofNat 116, Char.ofNat 32, Char.ofNat 108, Char.ofNat 111, Char.ofNat 111, Char.ofNat 112, Char.ofNat 46, Char.ofNat 101, Char.ofNat 120, Char.ofNat 97, Char.ofNat 109, Char.ofNat 112, Char.ofNat 108, Char.ofNat 101, Char.ofNat 47, Char.ofNat 112, Char.ofNat 117, Char.ofNat 98, Char.ofNat 45, Char.ofNat 103, Char.ofNat 48, Char.ofNat 51, Char.ofNat 49, Char.ofNat 50, Char.ofNat 56, Char.ofNat 47, Char.ofNat 108, Char.ofNat 97, Char.ofNat 119, Char.ofNat 115, Char.ofNat 46, Char.ofNat 70, Char.ofNat 110, Char.ofNat 69, Char.ofNat 120, Char.ofNat 112, Char.ofNat 97, Char.ofNat 110, Char.ofNat 100, Char.ofNat 32, Char.ofNat 108, Char.ofNat 111, Char.ofNat 111, Char.ofNat 112, Char.ofNat 46, Char.ofNat 101, Char.ofNat 120, Char.ofNat 97, Char.ofNat 109, Char.ofNat 112, Char.ofNat 108, Char.ofNat 101, Char.ofNat 47, Char.ofNat 112, Char.ofNat 117, Char.ofNat 98, Char.ofNat 45, Char.ofNat 103, Char.ofNat 48, Char.ofNat 51, Char.ofNat 49, Char.ofNat 50, Char.ofNat 56, Char.ofNat 47, Char.ofNat 108, Char.ofNat 97, Char.ofNat 119, Char.ofNat 115, Char.ofNat 46, Char.ofNat 70, Char.ofNat 110, Char.ofNat 80, Char.ofNat 114, Char.ofNat 101, Char.ofNat 102, Char.ofNat 105, Char.ofNat 120, Char.ofNat 32, Char.ofNat 108, Char.ofNat 111, Char.ofNat 111, Char.ofNat 112, Char.ofNat 46, Char.ofNat 101, Char.ofNat 120, Char.ofNat 97, Char.ofNat 109, Char.ofNat 112, Char.ofNat 108, Char.ofNat 101, Char.ofNat 47, Char.ofNat 112, Char.ofNat 117, Char.ofNat 98, Char.ofNat 45, Char.ofNat 103, Char.ofNat 48, Char.ofNat 51, Char.ofNat 49, Char.ofNat 50, Char.ofNat 56, Char.ofNat 47, Char.ofNat 108, Char.ofNat 97, Char.ofNat 119, Char.ofNat 115, Char.ofNat 46, Char.ofNat 70, Char.ofNat 110, Char.ofNat 73, Char.ofNat 115, Char.ofNat 77, Char.ofNat 97, Char.ofNat 99, Char.ofNat 32, Char.ofNat 108, Char.ofNat 111, Char.ofNat 111, Char.ofNat 112, Char.ofNat 46, Char.ofNat 101, Char.ofNat 120, Char.ofNat 97, Char.ofNat 109, Char.ofNat 112, Char.ofNat 108, Char.ofNat 101, Char.ofNat 47, Char.ofNat 112, Char.ofNat 117, Char.ofNat 98, Char.ofNat 45, Char.ofNat 103, Char.ofNat 48, Char.ofNat 51, Char.ofNat 49, Char.ofNat 50, Char.ofNat 56, Char.ofNat 47, Char.ofNat 108, Char.ofNat 97, Char.ofNat 119, Char.ofNat 115, Char.ofNat 46, Char.ofNat 70, Char.ofNat 110, Char.ofNat 66, Char.ofNat 108, Char.ofNat 111, Char.ofNat 99, Char.ofNat 107, Char.ofNat 115, Char.ofNat 32, Char.ofNat 108, Char.ofNat 111, Char.ofNat 111, Char.ofNat 112, Char.ofNat 46, Char.ofNat 101, Char.ofNat 120, Char.ofNat 97, Char.ofNat 109, Char.ofNat 112, Char.ofNat 108, Char.ofNat 101, Char.ofNat 47, Char.ofNat 112, Char.ofNat 117, Char.ofNat 98, Char.ofNat 45, Char.ofNat 103, Char.ofNat 48, Char.ofNat 51, Char.ofNat 49, Char.ofNat 50, Char.ofNat 56, Char.ofNat 47, Char.ofNat 108, Char.ofNat 97, Char.ofNat 119, Char.ofNat 115, Char.ofNat 46, Char.ofNat 70, Char.ofNat 110, Char.ofNat 77, Char.ofNat 111, Char.ofNat 115, Char.ofNat 116, Char.ofNat 32, Char.ofNat 108, Char.ofNat 111, Char.ofNat 111, Char.ofNat 112, Char.ofNat 46, Char.ofNat 101, Char.ofNat 120, Char.ofNat 97, Char.ofNat 109, Char.ofNat 112, Char.ofNat 108, Char.ofNat 101, Char.ofNat 47, Char.ofNat 112, Char.ofNat 117, Char.ofNat 98, Char.ofNat 45, Char.ofNat 103, Char.ofNat 48, Char.ofNat 51, Char.ofNat 49, Char.ofNat 50, Char.ofNat 56, Char.ofNat 47, Char.ofNat 108, Char.ofNat 97, Char.ofNat 119, Char.ofNat 115, Char.ofNat 46, Char.ofNat 70, Char.ofNat 110, Char.ofNat 75, Char.ofNat 101, Char.ofNat 121, Char.ofNat 32, Char.ofNat 108, Char.ofNat 111, Char.ofNat 111, Char.ofNat 112, Char.ofNat 46, Char.ofNat 101, Char.ofNat 120, Char.ofNat 97, Char.ofNat 109, Char.ofNat 112, Char.ofNat 108, Char.ofNat 101, Char.ofNat 47, Char.ofNat 112, Char.ofNat 117, Char.ofNat 98, Char.ofNat 45, Char.ofNat 103, Char.ofNat 48, Char.ofNat 51, Char.ofNat 49, Char.ofNat 50, Char.ofNat 56, Char.ofNat 47, Char.ofNat 108, Char.ofNat 97, Char.ofNat 119, Char.ofNat 115, Char.ofNat 46, Char.ofNat 70, Char.ofNat 110, Char.ofNat 68, Char.ofNat 101, Char.ofNat 114, Char.ofNat 105, Char.ofNat 118, Char.ofNat 101, Char.ofNat 32, Char.ofNat 108, Char.ofNat 111, Char.ofNat 111, Char.ofNat 112, Char.ofNat 46, Char.ofNat 101, Char.ofNat 120, Char.ofNat 97, Char.ofNat 109, Char.ofNat 112, Char.ofNat 108, Char.ofNat 101, Char.ofNat 47, Char.ofNat 112, Char.ofNat 117, Char.ofNat 98, Char.ofNat 45, Char.ofNat 103, Char.ofNat 48, Char.ofNat 51, Char.ofNat 49, Char.ofNat 50, Char.ofNat 56, Char.ofNat 47, Char.ofNat 108, Char.ofNat 97, Char.ofNat 119, Char.ofNat 115, Char.ofNat 46, Char.ofNat 70, Char.ofNat 110, Char.ofNat 68, Char.ofNat 101, Char.ofNat 114, Char.ofNat 105, Char.ofNat 118, Char.ofNat 101, Char.ofNat 80, Char.ofNat 114, Char.ofNat 101, Char.ofNat 102, Char.ofNat 105, Char.ofNat 120, Char.ofNat 32, Char.ofNat 108, Char.ofNat 111, Char.ofNat 111, Char.ofNat 112, Char.ofNat 46, Char.ofNat 101, Char.ofNat 120, Char.ofNat 97, Char.ofNat 109, Char.ofNat 112, Char.ofNat 108, Char.ofNat 101, Char.ofNat 47, Char.ofNat 112, Char.ofNat 117, Char.ofNat 98, Char.ofNat 45, Char.ofNat 103, Char.ofNat 48, Char.ofNat 51, Char.ofNat 49, Char.ofNat 50, Char.ofNat 56, Char.ofNat 47, Char.ofNat 108, Char.ofNat 97, Char.ofNat 119, Char.ofNat 115, Char.ofNat 46, Char.ofNat 70, Char.ofNat 110, Char.ofNat 80, Char.ofNat 97, Char.ofNat 115, Char.ofNat 115, Char.ofNat 119, Char.ofNat 111, Char.ofNat 114, Char.ofNat 100, Char.ofNat 78, Char.ofNat 111, Char.ofNat 117, Char.ofNat 103, Char.ofNat 104, Char.ofNat 116, Char.ofNat 115, Char.ofNat 32, Char.ofNat 108, Char.ofNat 111, Char.ofNat 111, Char.ofNat 112, Char.ofNat 46, Char.ofNat 101, Char.ofNat 120, Char.ofNat 97, Char.ofNat 109, Char.ofNat 112, Char.ofNat 108, Char.ofNat 101, Char.ofNat 47, Char.ofNat 112, Char.ofNat 117, Char.ofNat 98, Char.ofNat 45, Char.ofNat 103, Char.ofNat 48, Char.ofNat 51, Char.ofNat 49, Char.ofNat 50, Char.ofNat 56, Char.ofNat 47, Char.ofNat 108, Char.ofNat 97, Char.ofNat 119, Char.ofNat 115, Char.ofNat 46, Char.ofNat 70, Char.ofNat 110, Char.ofNat 82, Char.ofNat 101, Char.ofNat 102, Char.ofNat 117, Char.ofNat 115, Char.ofNat 101, Char.ofNat 100, Char.ofNat 32, Char.ofNat 108, Char.ofNat 111, Char.ofNat 111, Char.ofNat 112, Char.ofNat 46, Char.ofNat 101, Char.ofNat 120, Char.ofNat 97, Char.ofNat 109, Char.ofNat 112, Char.ofNat 108, Char.ofNat 101, Char.ofNat 47, Char.ofNat 112, Char.ofNat 117, Char.ofNat 98, Char.ofNat 45, Char.ofNat 103, Char.ofNat 48, Char.ofNat 51, Char.ofNat 49, Char.ofNat 50, Char.ofNat 56, Char.ofNat 47, Char.ofNat 108, Char.ofNat 97, Char.ofNat 119, Char.ofNat 115, Char.ofNat 46, Char.ofNat 70, Char.ofNat 110, Char.ofNat 84, Char.ofNat 111, Char.ofNat 111, Char.ofNat 76, Char.ofNat 111, Char.ofNat 110, Char.ofNat 103]) from by kernel_rfl, String.toList_ofList]
theorem seatWords (T : List Char) : behindMainWord (wordsSigns ([Char.ofNat 104, Char.ofNat 97, Char.ofNat 114, Char.ofNat 110, Char.ofNat 101, Char.ofNat 115, Char.ofNat 115, Char.ofNat 32, Char.ofNat 102, Char.ofNat 52, Char.ofNat 52, Char.ofNat 54, Char.ofNat 54, Char.ofNat 54, Char.ofNat 97, Char.ofNat 98, Char.ofNat 57, Char.ofNat 99, Char.ofNat 102, Char.ofNat 56, Char.ofNat 54, Char.ofNat 50, Char.ofNat 99, Char.ofNat 102, Char.ofNat 101, Char.ofNat 98, Char.ofNat 56, Char.ofNat 54, Char.ofNat 99, Char.ofNat 51, Char.ofNat 49, Char.ofNat 101, Char.ofNat 100, Char.ofNat 99, Char.ofNat 98, Char.ofNat 53, Char.ofNat 52, Char.ofNat 55, Char.ofNat 100, Char.ofNat 55, Char.ofNat 97, Char.ofNat 50, Char.ofNat 56, Char.ofNat 101, Char.ofNat 55, Char.ofNat 57, Char.ofNat 54, Char.ofNat 55, Char.ofNat 101, Char.ofNat 55, Char.ofNat 51, Char.ofNat 97, Char.ofNat 53, Char.ofNat 49, Char.ofNat 52, Char.ofNat 53, Char.ofNat 49, Char.ofNat 57, Char.ofNat 101, Char.ofNat 49, Char.ofNat 49, Char.ofNat 56, Char.ofNat 97, Char.ofNat 52, Char.ofNat 54, Char.ofNat 56, Char.ofNat 55, Char.ofNat 53, Char.ofNat 49, Char.ofNat 50, Char.ofNat 55, Char.ofNat 53, Char.ofNat 32, Char.ofNat 99, Char.ofNat 117, Char.ofNat 116, Char.ofNat 32] ++ T)) = [Char.ofNat 99, Char.ofNat 117, Char.ofNat 116] :: wordsSigns T := by kernel_rfl
theorem seatHead : behindMainWord (wordsSigns Try.prog.initOrder.toList) = [Char.ofNat 99, Char.ofNat 117, Char.ofNat 116] :: wordsSigns [Char.ofNat 97, Char.ofNat 116, Char.ofNat 32, Char.ofNat 108, Char.ofNat 111, Char.ofNat 111, Char.ofNat 112, Char.ofNat 46, Char.ofNat 101, Char.ofNat 120, Char.ofNat 97, Char.ofNat 109, Char.ofNat 112, Char.ofNat 108, Char.ofNat 101, Char.ofNat 47, Char.ofNat 112, Char.ofNat 117, Char.ofNat 98, Char.ofNat 45, Char.ofNat 103, Char.ofNat 48, Char.ofNat 51, Char.ofNat 49, Char.ofNat 50, Char.ofNat 56, Char.ofNat 47, Char.ofNat 108, Char.ofNat 97, Char.ofNat 119, Char.ofNat 115, Char.ofNat 46, Char.ofNat 70, Char.ofNat 110, Char.ofNat 67, Char.ofNat 117, Char.ofNat 116, Char.ofNat 115, Char.ofNat 32, Char.ofNat 108, Char.ofNat 111, Char.ofNat 111, Char.ofNat 112, Char.ofNat 46, Char.ofNat 101, Char.ofNat 120, Char.ofNat 97, Char.ofNat 109, Char.ofNat 112, Char.ofNat 108, Char.ofNat 101, Char.ofNat 47, Char.ofNat 112, Char.ofNat 117, Char.ofNat 98, Char.ofNat 45, Char.ofNat 103, Char.ofNat 48, Char.ofNat 51, Char.ofNat 49, Char.ofNat 50, Char.ofNat 56, Char.ofNat 47, Char.ofNat 108, Char.ofNat 97, Char.ofNat 119, Char.ofNat 115, Char.ofNat 46, Char.ofNat 70, Char.ofNat 110, Char.ofNat 66, Char.ofNat 111, Char.ofNat 116, Char.ofNat 104, Char.ofNat 32, Char.ofNat 108, Char.ofNat 111, Char.ofNat 111, Char.ofNat 112, Char.ofNat 46, Char.ofNat 101, Char.ofNat 120, Char.ofNat 97, Char.ofNat 109, Char.ofNat 112, Char.ofNat 108, Char.ofNat 101, Char.ofNat 47, Char.ofNat 112, Char.ofNat 117, Char.ofNat 98, Char.ofNat 45, Char.ofNat 103, Char.ofNat 48, Char.ofNat 51, Char.ofNat 49, Char.ofNat 50, Char.ofNat 56, Char.ofNat 47, Char.ofNat 108, Char.ofNat 97, Char.ofNat 119, Char.ofNat 115, Char.ofNat 46, Char.ofNat 70, Char.ofNat 110, Char.ofNat 77, Char.ofNat 97, Char.ofNat 99, Char.ofNat 32, Char.ofNat 108, Char.ofNat 111, Char.ofNat 111, Char.ofNat 112, Char.ofNat 46, Char.ofNat 101, Char.ofNat 120, Char.ofNat 97, Char.ofNat 109, Char.ofNat 112, Char.ofNat 108, Char.ofNat 101, Char.ofNat 47, Char.ofNat 112, Char.ofNat 117, Char.ofNat 98, Char.ofNat 45, Char.ofNat 103, Char.ofNat 48, Char.ofNat 51, Char.ofNat 49, Char.ofNat 50, Char.ofNat 56, Char.ofNat 47, Char.ofNat 108, Char.ofNat 97, Char.ofNat 119, Char.ofNat 115, Char.ofNat 46, Char.ofNat 70, Char.ofNat 110, Char.ofNat 78, Char.ofNat 111, Char.ofNat 117, Char.ofNat 103, Char.ofNat 104, Char.ofNat 116, Char.ofNat 115, Char.ofNat 32, Char.ofNat 108, Char.ofNat 111, Char.ofNat 111, Char.ofNat 112, Char.ofNat 46, Char.ofNat 101, Char.ofNat 120, Char.ofNat 97, Char.ofNat 109, Char.ofNat 112, Char.ofNat 108, Char.ofNat 101, Char.ofNat 47, Char.ofNat 112, Char.ofNat 117, Char.ofNat 98, Char.ofNat 45, Char.ofNat 103, Char.ofNat 48, Char.ofNat 51, Char.ofNat 49, Char.ofNat 50, Char.ofNat 56, Char.ofNat 47, Char.ofNat 108, Char.ofNat 97, Char.ofNat 119, Char.ofNat 115, Char.ofNat 46, Char.ofNat 70, Char.ofNat 110, Char.ofNat 79, Char.ofNat 110, Char.ofNat 99, Char.ofNat 101, Char.ofNat 32, Char.ofNat 108, Char.ofNat 111, Char.ofNat 111, Char.ofNat 112, Char.ofNat 46, Char.ofNat 101, Char.ofNat 120, Char.ofNat 97, Char.ofNat 109, Char.ofNat 112, Char.ofNat 108, Char.ofNat 101, Char.ofNat 47, Char.ofNat 112, Char.ofNat 117, Char.ofNat 98, Char.ofNat 45, Char.ofNat 103, Char.ofNat 48, Char.ofNat 51, Char.ofNat 49, Char.ofNat 50, Char.ofNat 56, Char.ofNat 47, Char.ofNat 108, Char.ofNat 97, Char.ofNat 119, Char.ofNat 115, Char.ofNat 46, Char.ofNat 70, Char.ofNat 110, Char.ofNat 83, Char.ofNat 116, Char.ofNat 101, Char.ofNat 112, Char.ofNat 115, Char.ofNat 32, Char.ofNat 108, Char.ofNat 111, Char.ofNat 111, Char.ofNat 112, Char.ofNat 46, Char.ofNat 101, Char.ofNat 120, Char.ofNat 97, Char.ofNat 109, Char.ofNat 112, Char.ofNat 108, Char.ofNat 101, Char.ofNat 47, Char.ofNat 112, Char.ofNat 117, Char.ofNat 98, Char.ofNat 45, Char.ofNat 103, Char.ofNat 48, Char.ofNat 51, Char.ofNat 49, Char.ofNat 50, Char.ofNat 56, Char.ofNat 47, Char.ofNat 108, Char.ofNat 97, Char.ofNat 119, Char.ofNat 115, Char.ofNat 46, Char.ofNat 70, Char.ofNat 110, Char.ofNat 82, Char.ofNat 111, Char.ofNat 117, Char.ofNat 110, Char.ofNat 100, Char.ofNat 115, Char.ofNat 32, Char.ofNat 108, Char.ofNat 111, Char.ofNat 111, Char.ofNat 112, Char.ofNat 46, Char.ofNat 101, Char.ofNat 120, Char.ofNat 97, Char.ofNat 109, Char.ofNat 112, Char.ofNat 108, Char.ofNat 101, Char.ofNat 47, Char.ofNat 112, Char.ofNat 117, Char.ofNat 98, Char.ofNat 45, Char.ofNat 103, Char.ofNat 48, Char.ofNat 51, Char.ofNat 49, Char.ofNat 50, Char.ofNat 56, Char.ofNat 47, Char.ofNat 108, Char.ofNat 97, Char.ofNat 119, Char.ofNat 115, Char.ofNat 46, Char.ofNat 70, Char.ofNat 110, Char.ofNat 83, Char.ofNat 105, Char.ofNat 122, Char.ofNat 101, Char.ofNat 115, Char.ofNat 32, Char.ofNat 108, Char.ofNat 111, Char.ofNat 111, Char.ofNat 112, Char.ofNat 46, Char.ofNat 101, Char.ofNat 120, Char.ofNat 97, Char.ofNat 109, Char.ofNat 112, Char.ofNat 108, Char.ofNat 101, Char.ofNat 47, Char.ofNat 112, Char.ofNat 117, Char.ofNat 98, Char.ofNat 45, Char.ofNat 103, Char.ofNat 48, Char.ofNat 51, Char.ofNat 49, Char.ofNat 50, Char.ofNat 56, Char.ofNat 47, Char.ofNat 108, Char.ofNat 97, Char.ofNat 119, Char.ofNat 115, Char.ofNat 46, Char.ofNat 70, Char.ofNat 110, Char.ofNat 65, Char.ofNat 103, Char.ofNat 97, Char.ofNat 105, Char.ofNat 110, Char.ofNat 32, Char.ofNat 108, Char.ofNat 111, Char.ofNat 111, Char.ofNat 112, Char.ofNat 46, Char.ofNat 101, Char.ofNat 120, Char.ofNat 97, Char.ofNat 109, Char.ofNat 112, Char.ofNat 108, Char.ofNat 101, Char.ofNat 47, Char.ofNat 112, Char.ofNat 117, Char.ofNat 98, Char.ofNat 45, Char.ofNat 103, Char.ofNat 48, Char.ofNat 51, Char.ofNat 49, Char.ofNat 50, Char.ofNat 56, Char.ofNat 47, Char.ofNat 108, Char.ofNat 97, Char.ofNat 119, Char.ofNat 115, Char.ofNat 46, Char.ofNat 70, Char.ofNat 110, Char.ofNat 69, Char.ofNat 120, Char.ofNat 116, Char.ofNat 114, Char.ofNat 97, Char.ofNat 99, Char.ofNat 116, Char.ofNat 32, Char.ofNat 108, Char.ofNat 111, Char.ofNat 111, Char.ofNat 112, Char.ofNat 46, Char.ofNat 101, Char.ofNat 120, Char.ofNat 97, Char.ofNat 109, Char.ofNat 112, Char.ofNat 108, Char.ofNat 101, Char.ofNat 47, Char.ofNat 112, Char.ofNat 117, Char.ofNat 98, Char.ofNat 45, Char.ofNat 103, Char.ofNat 48, Char.ofNat 51, Char.ofNat 49, Char.ofNat 50, Char.ofNat 56, Char.ofNat 47, Char.ofNat 108, Char.ofNat 97, Char.ofNat 119, Char.ofNat 115, Char.ofNat 46, Char.ofNat 70, Char.ofNat 110, Char.ofNat 78, Char.ofNat 111, Char.ofNat 83, Char.ofNat 97, Char.ofNat 108, Char.ofNat 116, Char.ofNat 32, Char.ofNat 108, Char.ofNat 111, Char.ofNat 111, Char.ofNat 112, Char.ofNat 46, Char.ofNat 101, Char.ofNat 120, Char.ofNat 97, Char.ofNat 109, Char.ofNat 112, Char.ofNat 108, Char.ofNat 101, Char.ofNat 47, Char.ofNat 112, Char.ofNat 117, Char.ofNat 98, Char.ofNat 45, Char.ofNat 103, Char.ofNat 48, Char.ofNat 51, Char.ofNat 49, Char.ofNat 50, Char.ofNat 56, Char.ofNat 47, Char.ofNat 108, Char.ofNat 97, Char.ofNat 119, Char.ofNat 115, Char.ofNat 46, Char.ofNat 70, Char.ofNat 110, Char.ofNat 69, Char.ofNat 120, Char.ofNat 112, Char.ofNat 97, Char.ofNat 110, Char.ofNat 100, Char.ofNat 32, Char.ofNat 108, Char.ofNat 111, Char.ofNat 111, Char.ofNat 112, Char.ofNat 46, Char.ofNat 101, Char.ofNat 120, Char.ofNat 97, Char.ofNat 109, Char.ofNat 112, Char.ofNat 108, Char.ofNat 101, Char.ofNat 47, Char.ofNat 112, Char.ofNat 117, Char.ofNat 98, Char.ofNat 45, Char.ofNat 103, Char.ofNat 48, Char.ofNat 51, Char.ofNat 49, Char.ofNat 50, Char.ofNat 56, Char.ofNat 47, Char.ofNat 108, Char.ofNat 97, Char.ofNat 119, Char.ofNat 115, Char.ofNat 46, Char.ofNat 70, Char.ofNat 110, Char.ofNat 80, Char.ofNat 114, Char.ofNat 101, Char.ofNat 102, Char.ofNat 105, Char.ofNat 120, Char.ofNat 32, Char.ofNat 108, Char.ofNat 111, Char.ofNat 111, Char.ofNat 112, Char.ofNat 46, Char.ofNat 101, Char.ofNat 120, Char.ofNat 97, Char.ofNat 109, Char.ofNat 112, Char.ofNat 108, Char.ofNat 101, Char.ofNat 47, Char.ofNat 112, Char.ofNat 117, Char.ofNat 98, Char.ofNat 45, Char.ofNat 103, Char.ofNat 48, Char.ofNat 51, Char.ofNat 49, Char.ofNat 50, Char.ofNat 56, Char.ofNat 47, Char.ofNat 108, Char.ofNat 97, Char.ofNat 119, Char.ofNat 115, Char.ofNat 46, Char.ofNat 70, Char.ofNat 110, Char.ofNat 73, Char.ofNat 115, Char.ofNat 77, Char.ofNat 97, Char.ofNat 99, Char.ofNat 32, Char.ofNat 108, Char.ofNat 111, Char.ofNat 111, Char.ofNat 112, Char.ofNat 46, Char.ofNat 101, Char.ofNat 120, Char.ofNat 97, Char.ofNat 109, Char.ofNat 112, Char.ofNat 108, Char.ofNat 101, Char.ofNat 47, Char.ofNat 112, Char.ofNat 117, Char.ofNat 98, Char.ofNat 45, Char.ofNat 103, Char.ofNat 48, Char.ofNat 51, Char.ofNat 49, Char.ofNat 50, Char.ofNat 56, Char.ofNat 47, Char.ofNat 108, Char.ofNat 97, Char.ofNat 119, Char.ofNat 115, Char.ofNat 46, Char.ofNat 70, Char.ofNat 110, Char.ofNat 66, Char.ofNat 108, Char.ofNat 111, Char.ofNat 99, Char.ofNat 107, Char.ofNat 115, Char.ofNat 32, Char.ofNat 108, Char.ofNat 111, Char.ofNat 111, Char.ofNat 112, Char.ofNat 46, Char.ofNat 101, Char.ofNat 120, Char.ofNat 97, Char.ofNat 109, Char.ofNat 112, Char.ofNat 108, Char.ofNat 101, Char.ofNat 47, Char.ofNat 112, Char.ofNat 117, Char.ofNat 98, Char.ofNat 45, Char.ofNat 103, Char.ofNat 48, Char.ofNat 51, Char.ofNat 49, Char.ofNat 50, Char.ofNat 56, Char.ofNat 47, Char.ofNat 108, Char.ofNat 97, Char.ofNat 119, Char.ofNat 115, Char.ofNat 46, Char.ofNat 70, Char.ofNat 110, Char.ofNat 77, Char.ofNat 111, Char.ofNat 115, Char.ofNat 116, Char.ofNat 32, Char.ofNat 108, Char.ofNat 111, Char.ofNat 111, Char.ofNat 112, Char.ofNat 46, Char.ofNat 101, Char.ofNat 120, Char.ofNat 97, Char.ofNat 109, Char.ofNat 112, Char.ofNat 108, Char.ofNat 101, Char.ofNat 47, Char.ofNat 112, Char.ofNat 117, Char.ofNat 98, Char.ofNat 45, Char.ofNat 103, Char.ofNat 48, Char.ofNat 51, Char.ofNat 49, Char.ofNat 50, Char.ofNat 56, Char.ofNat 47, Char.ofNat 108, Char.ofNat 97, Char.ofNat 119, Char.ofNat 115, Char.ofNat 46, Char.ofNat 70, Char.ofNat 110, Char.ofNat 75, Char.ofNat 101, Char.ofNat 121, Char.ofNat 32, Char.ofNat 108, Char.ofNat 111, Char.ofNat 111, Char.ofNat 112, Char.ofNat 46, Char.ofNat 101, Char.ofNat 120, Char.ofNat 97, Char.ofNat 109, Char.ofNat 112, Char.ofNat 108, Char.ofNat 101, Char.ofNat 47, Char.ofNat 112, Char.ofNat 117, Char.ofNat 98, Char.ofNat 45, Char.ofNat 103, Char.ofNat 48, Char.ofNat 51, Char.ofNat 49, Char.ofNat 50, Char.ofNat 56, Char.ofNat 47, Char.ofNat 108, Char.ofNat 97, Char.ofNat 119, Char.ofNat 115, Char.ofNat 46, Char.ofNat 70, Char.ofNat 110, Char.ofNat 68, Char.ofNat 101, Char.ofNat 114, Char.ofNat 105, Char.ofNat 118, Char.ofNat 101, Char.ofNat 32, Char.ofNat 108, Char.ofNat 111, Char.ofNat 111, Char.ofNat 112, Char.ofNat 46, Char.ofNat 101, Char.ofNat 120, Char.ofNat 97, Char.ofNat 109, Char.ofNat 112, Char.ofNat 108, Char.ofNat 101, Char.ofNat 47, Char.ofNat 112, Char.ofNat 117, Char.ofNat 98, Char.ofNat 45, Char.ofNat 103, Char.ofNat 48, Char.ofNat 51, Char.ofNat 49, Char.ofNat 50, Char.ofNat 56, Char.ofNat 47, Char.ofNat 108, Char.ofNat 97, Char.ofNat 119, Char.ofNat 115, Char.ofNat 46, Char.ofNat 70, Char.ofNat 110, Char.ofNat 68, Char.ofNat 101, Char.ofNat 114, Char.ofNat 105, Char.ofNat 118, Char.ofNat 101, Char.ofNat 80, Char.ofNat 114, Char.ofNat 101, Char.ofNat 102, Char.ofNat 105, Char.ofNat 120, Char.ofNat 32, Char.ofNat 108, Char.ofNat 111, Char.ofNat 111, Char.ofNat 112, Char.ofNat 46, Char.ofNat 101, Char.ofNat 120, Char.ofNat 97, Char.ofNat 109, Char.ofNat 112, Char.ofNat 108, Char.ofNat 101, Char.ofNat 47, Char.ofNat 112, Char.ofNat 117, Char.ofNat 98, Char.ofNat 45, Char.ofNat 103, Char.ofNat 48, Char.ofNat 51, Char.ofNat 49, Char.ofNat 50, Char.ofNat 56, Char.ofNat 47, Char.ofNat 108, Char.ofNat 97, Char.ofNat 119, Char.ofNat 115, Char.ofNat 46, Char.ofNat 70, Char.ofNat 110, Char.ofNat 80, Char.ofNat 97, Char.ofNat 115, Char.ofNat 115, Char.ofNat 119, Char.ofNat 111, Char.ofNat 114, Char.ofNat 100, Char.ofNat 78, Char.ofNat 111, Char.ofNat 117, Char.ofNat 103, Char.ofNat 104, Char.ofNat 116, Char.ofNat 115, Char.ofNat 32, Char.ofNat 108, Char.ofNat 111, Char.ofNat 111, Char.ofNat 112, Char.ofNat 46, Char.ofNat 101, Char.ofNat 120, Char.ofNat 97, Char.ofNat 109, Char.ofNat 112, Char.ofNat 108, Char.ofNat 101, Char.ofNat 47, Char.ofNat 112, Char.ofNat 117, Char.ofNat 98, Char.ofNat 45, Char.ofNat 103, Char.ofNat 48, Char.ofNat 51, Char.ofNat 49, Char.ofNat 50, Char.ofNat 56, Char.ofNat 47, Char.ofNat 108, Char.ofNat 97, Char.ofNat 119, Char.ofNat 115, Char.ofNat 46, Char.ofNat 70, Char.ofNat 110, Char.ofNat 82, Char.ofNat 101, Char.ofNat 102, Char.ofNat 117, Char.ofNat 115, Char.ofNat 101, Char.ofNat 100, Char.ofNat 32, Char.ofNat 108, Char.ofNat 111, Char.ofNat 111, Char.ofNat 112, Char.ofNat 46, Char.ofNat 101, Char.ofNat 120, Char.ofNat 97, Char.ofNat 109, Char.ofNat 112, Char.ofNat 108, Char.ofNat 101, Char.ofNat 47, Char.ofNat 112, Char.ofNat 117, Char.ofNat 98, Char.ofNat 45, Char.ofNat 103, Char.ofNat 48, Char.ofNat 51, Char.ofNat 49, Char.ofNat 50, Char.ofNat 56, Char.ofNat 47, Char.ofNat 108, Char.ofNat 97, Char.ofNat 119, Char.ofNat 115, Char.ofNat 46, Char.ofNat 70, Char.ofNat 110, Char.ofNat 84, Char.ofNat 111, Char.ofNat 111, Char.ofNat 76, Char.ofNat 111, Char.ofNat 110, Char.ofNat 103] := by rw [seatOrder]; exact seatWords _
theorem seatEnter : Try.prog.mayEnter = true := enter_of seatHead (by kernel_rfl) (by kernel_rfl) (by kernel_rfl)
theorem seatFinal : Try.prog.liftsFinal = false := final_of seatHead
theorem seatMake : Try.prog.make = some .cut := make_of seatHead
end Go.Proofs.Ytgomodhhomekpaa

/-
  The sizes that the reference names.
-/
namespace Go.Proofs.Ytgomodhhomekpaa
open Go.RowKit Pu Ar
def SST (a : Act) (w : World) (s bl : Int) (a' : Act) (w' : World) : Prop := Frm 31 a' ∧ Same [0, 1, 2, 3] a a' ∧ G a' 26 = .bool (bad s bl) ∧ w' = w
set_option maxRecDepth 100000 in
theorem ssTest (a : Act) (w : World) (h : Frm 31 a) (Q : Exit → Act → World → Prop) (c : Nat) (s bl : Int) (g1 : G a 1 = .pointer (some ⟨c, 0, none⟩))
    (c1 : w.cell? ⟨c, 1, none⟩ = some (.int .i64 s)) (c2 : w.cell? ⟨c, 2, none⟩ = some (.int .i64 bl))
    (hQ : ∀ a' w', SST a w s bl a' w' → Q .normal a' w') :
    (part (bodyOf Try.f47) [true, true, false, false]).wp Try.prog Q a w := by
  conv => arg 2; whnf
  rw [lit31 a h]
  simp only [g1]
  have G1 := Lib.hid g1
  clear h g1
  by_cases h1 : s < 1
  · have hb : bad s bl = true := by simp [bad, h1]
    have HB := Lib.hid hb
    clear hb
    go_wp2
    have E1 := G1.out
    exact ⟨⟨rfl, rfl⟩, ⟨rfl, E1.symm, rfl, rfl, trivial⟩, by rw [HB.out]; rfl, rfl⟩
  by_cases h2 : 16 < s
  · have hb : bad s bl = true := by simp [bad, h2]
    have HB := Lib.hid hb
    clear hb
    go_wp2
    have E1 := G1.out
    exact ⟨⟨rfl, rfl⟩, ⟨rfl, E1.symm, rfl, rfl, trivial⟩, by rw [HB.out]; rfl, rfl⟩
  by_cases h3 : bl < s
  · have hb : bad s bl = true := by simp [bad, h3]
    have HB := Lib.hid hb
    clear hb
    go_wp2
    have E1 := G1.out
    exact ⟨⟨rfl, rfl⟩, ⟨rfl, E1.symm, rfl, rfl, trivial⟩, by rw [HB.out]; rfl, rfl⟩
  by_cases h4 : 32 < bl
  · have hb : bad s bl = true := by simp [bad, h4]
    have HB := Lib.hid hb
    clear hb
    go_wp2
    have E1 := G1.out
    exact ⟨⟨rfl, rfl⟩, ⟨rfl, E1.symm, rfl, rfl, trivial⟩, by rw [HB.out]; rfl, rfl⟩
  · have hb : bad s bl = false := by simp [bad, h1, h2, h3, h4]
    have HB := Lib.hid hb
    clear hb
    go_wp2
    have E1 := G1.out
    exact ⟨⟨rfl, rfl⟩, ⟨rfl, E1.symm, rfl, rfl, trivial⟩, by rw [HB.out]; rfl, rfl⟩
def szK (k s bl : Int) : Nat := if k = 1 then 32 else szOf s bl
def blK (k s bl : Int) : Nat := if k = 1 then 64 else blOf s bl
set_option maxRecDepth 100000 in
theorem sSizes (k s bl : Int) (w : World) : Calls Try.prog 47 #[.agg #[.int .i64 k, .int .i64 s, .int .i64 bl]] w fun e w' => e = .returned (.tuple #[.int .i64 (szK k s bl), .int .i64 (blK k s bl)]) ∧ Hid (Tch [] w w') := by
  go_enter Try.func47, Try.ntmps47
  refine wp_seq_k (fun K0 k0 => ?_)
  have H0 := Lib.hid k0
  clear k0
  go_wp2
  generalize hW1 : World.alloc _ _ = W1
  have R1 : Row W1 w.heap.size 23 [.int .i64 k, .int .i64 s, .int .i64 bl] := by rw [← hW1]; exact Row.new w 23 _
  have T1 : Hid (Tch [] w W1) := by rw [← hW1]; exact Tch.alloc _ _
  have c0 : W1.cell? ⟨w.heap.size, 0, none⟩ = some (.int .i64 k) := by rw [R1.cell]; rfl
  have c1 : W1.cell? ⟨w.heap.size, 1, none⟩ = some (.int .i64 s) := by rw [R1.cell]; rfl
  have c2 : W1.cell? ⟨w.heap.size, 2, none⟩ = some (.int .i64 bl) := by rw [R1.cell]; rfl
  clear hW1 R1
  obtain ⟨c, hc⟩ : ∃ c, c = w.heap.size := ⟨_, rfl⟩
  rw [← hc] at c0 c1 c2 ⊢
  clear hc
  by_cases hk : k = 1
  · have e1 : szK k s bl = 32 := by unfold szK; rw [if_pos hk]
    have e2 : blK k s bl = 64 := by unfold blK; rw [if_pos hk]
    have E1 := Lib.hid e1
    have E2 := Lib.hid e2
    subst hk
    clear e1 e2
    refine H0.out _ _ (wp_seq_k (fun K1 k1 => ?_))
    go_wp2
    go_ret2
    refine ⟨?_, T1.out⟩
    rw [E1.out, E2.out]; rfl
  · have e1 : szK k s bl = szOf s bl := by unfold szK; rw [if_neg hk]
    have e2 : blK k s bl = blOf s bl := by unfold blK; rw [if_neg hk]
    have E1 := Lib.hid e1
    have E2 := Lib.hid e2
    have hkb : (k == 1) = false := by simpa using hk
    clear e1 e2
    refine H0.out _ _ (wp_seq_k (fun K1 k1 => ?_))
    have H1 := Lib.hid k1
    clear k1
    go_wp2
    clear c0
    refine H1.out _ _ (wp_seq_k (fun K2 k2 => wp_seq_k (fun K3 k3 => ?_)))
    have H2 := Lib.hid k2
    have H3 := Lib.hid k3
    clear k2 k3
    refine ssTest _ W1 ⟨rfl, rfl⟩ _ c s bl rfl c1 c2 ?_
    rintro a' w' ⟨f, sm, g26, rfl⟩
    refine H3.out _ _ ?_
    have g1 : G a' 1 = .pointer (some ⟨c, 0, none⟩) := sm.get 1 rfl
    rw [lit31 a' f]
    cases hbad : bad s bl with
    | true =>
      rw [hbad] at g26
      simp only [g1, g26]
      have e1 : szOf s bl = 1 := by unfold szOf; rw [hbad]; rfl
      have e2 : blOf s bl = 16 := by unfold blOf; rw [hbad]; rfl
      have F1 := Lib.hid e1
      have F2 := Lib.hid e2
      clear f sm g1 g26 hbad e1 e2
      go_wp2
      go_ret2
      refine ⟨?_, T1.out⟩
      rw [E1.out, E2.out, F1.out, F2.out]; rfl
    | false =>
      rw [hbad] at g26
      simp only [g1, g26]
      obtain ⟨n1, n2, n3, n4⟩ := not_bad hbad
      have e1 : szOf s bl = s.toNat := by unfold szOf; rw [hbad]; rfl
      have e2 : blOf s bl = bl.toNat := by unfold blOf; rw [hbad]; rfl
      have F1 : Hid (((szOf s bl : Nat) : Int) = s) := by rw [e1]; show ((s.toNat : Nat) : Int) = s; omega
      have F2 : Hid (((blOf s bl : Nat) : Int) = bl) := by rw [e2]; show ((bl.toNat : Nat) : Int) = bl; omega
      clear f sm g1 g26 hbad e1 e2 n1 n2 n3 n4
      go_wp2
      refine H2.out _ _ ?_
      go_wp2
      go_quiet (fail)
      go_wp2
      go_ret2
      refine ⟨?_, T1.out.trans (Tch.drewN _ _)⟩
      rw [E1.out, E2.out, F1.out, F2.out]; rfl
theorem kind_size (kt : List UInt32) (k s bl : Int) : (kindOf kt k s bl).size = szK k s bl := by
  unfold kindOf szK szOf bad
  by_cases hk : k = 1
  · rw [if_pos hk, if_pos hk]; rfl
  · rw [if_neg hk, if_neg hk]
    by_cases h : s < 1 ∨ 16 < s ∨ bl < s ∨ 32 < bl
    · rw [if_pos h, decide_eq_true h]; rfl
    · rw [if_neg h, decide_eq_false h]; rfl
theorem kind_block (kt : List UInt32) (k s bl : Int) : (kindOf kt k s bl).block = blK k s bl := by
  unfold kindOf blK blOf bad
  by_cases hk : k = 1
  · rw [if_pos hk, if_pos hk]; rfl
  · rw [if_neg hk, if_neg hk]
    by_cases h : s < 1 ∨ 16 < s ∨ bl < s ∨ 32 < bl
    · rw [if_pos h, decide_eq_true h]; rfl
    · rw [if_neg h, decide_eq_false h]; rfl
set_option maxRecDepth 100000 in
theorem sSize (k s bl : Int) (w : World) : Calls Try.prog 27 #[.agg #[.int .i64 k, .int .i64 s, .int .i64 bl]] w fun e w' => e = .returned (.int .i64 (szK k s bl)) ∧ Hid (Tch [] w w') := by
  go_enter Try.func27, Try.ntmps27
  go_wp2_with (fail)
  refine (sSizes k s bl _).mono ?_
  rintro e W1 ⟨rfl, h⟩
  have h : Tch [] w W1 := Tch.trans (Tch.alloc _ _) h.out
  have H := Lib.hid h
  clear h
  go_wp2
  go_ret
  exact ⟨rfl, H.out⟩
set_option maxRecDepth 100000 in
theorem sBlock (k s bl : Int) (w : World) : Calls Try.prog 36 #[.agg #[.int .i64 k, .int .i64 s, .int .i64 bl]] w fun e w' => e = .returned (.int .i64 (blK k s bl)) ∧ Hid (Tch [] w w') := by
  go_enter Try.func36, Try.ntmps36
  go_wp2_with (fail)
  refine (sSizes k s bl _).mono ?_
  rintro e W1 ⟨rfl, h⟩
  have h : Tch [] w W1 := Tch.trans (Tch.alloc _ _) h.out
  have H := Lib.hid h
  clear h
  go_wp2
  go_ret
  exact ⟨rfl, H.out⟩
end Go.Proofs.Ytgomodhhomekpaa

/-
  Plain laws of HMAC, HKDF and PBKDF2 on lists of bytes. No program in sight.
-/
namespace Go.Proofs.Ytgomodhhomekpaa
namespace Pu
theorem mac_longKey' {hk : HK} (hok : hk.ok) (key data : By) (h : hk.block < key.length) : mac hk (hk.hash key) data = mac hk key data := by
  have e1 : keyOf hk key = hk.hash key := by unfold keyOf; rw [if_pos h]
  have e2 : keyOf hk (hk.hash key) = hk.hash key := by
    unfold keyOf
    rw [if_neg]
    rw [hk.hash_length]; have := hok.size_le_block; omega
  unfold mac opad ipad padKey
  rw [e1, e2]
theorem padKey_noughts (hk : HK) (key : By) (m : Nat) (h : key.length + m ≤ hk.block) : padKey hk (key ++ List.replicate m 0) = padKey hk key := by
  have e1 : keyOf hk key = key := by unfold keyOf; rw [if_neg (by omega)]
  have e2 : keyOf hk (key ++ List.replicate m 0) = key ++ List.replicate m 0 := by
    unfold keyOf; rw [if_neg (by simp; omega)]
  unfold padKey
  rw [e1, e2, List.append_assoc, List.replicate_append_replicate, List.length_append, List.length_replicate]
  congr 2; omega
/-- Noughts behind a key. -/
theorem mac_noughts (hk : HK) (key data : By) (m : Nat) (h : key.length + m ≤ hk.block) : mac hk (key ++ List.replicate m 0) data = mac hk key data := by
  unfold mac opad ipad
  rw [padKey_noughts hk key m h]
theorem extract_isMac {hk : HK} (hok : hk.ok) (secret salt : By) : extract hk secret salt = mac hk salt secret := by
  unfold extract
  split
  · next h =>
    subst h
    have := mac_noughts hk [] secret hk.size (by have := hok.size_le_block; simpa using this)
    simpa using this
  · rfl
theorem extract_noSalt {hk : HK} (hok : hk.ok) (secret : By) : extract hk secret [] = extract hk secret (List.replicate hk.size 0) := by
  rw [extract_isMac hok, extract_isMac hok]
  have := mac_noughts hk [] secret hk.size (by have := hok.size_le_block; simpa using this)
  simpa using this.symm
theorem expAll_take (hk : HK) (prk info : By) (a b : Nat) (h : a ≤ b) : (expAll hk prk info b).take (a * hk.size) = expAll hk prk info a := by
  induction b with
  | zero => obtain rfl : a = 0 := by omega
            simp [expAll]
  | succ b ih =>
    by_cases hb : a ≤ b
    · have hm : a * hk.size ≤ b * hk.size := Nat.mul_le_mul_right _ hb
      simp only [expAll]
      rw [List.take_append_of_le_length (by rw [expAll_length]; exact hm)]
      exact ih hb
    · obtain rfl : a = b + 1 := by omega
      rw [List.take_of_length_le (Nat.le_of_eq (expAll_length _ _ _ _))]
theorem up_le (x s : Nat) (hs : 1 ≤ s) : x ≤ (x + s - 1) / s * s := by
  have h := Nat.div_add_mod (x + s - 1) s
  have h2 := Nat.mod_lt (x + s - 1) (show 0 < s by omega)
  rw [Nat.mul_comm] at h
  omega
theorem up_mono (x y s : Nat) (h : x ≤ y) : (x + s - 1) / s ≤ (y + s - 1) / s := Nat.div_le_div_right (by omega)
theorem up_mul (i s : Nat) (hs : 1 ≤ s) : (i * s + s - 1) / s = i := by
  rw [Nat.div_eq_iff (by omega)]
  have : (i + 1) * s = i * s + s := Nat.succ_mul i s
  omega
theorem expand_length {hk : HK} (hok : hk.ok) (prk info : By) (n : Nat) : (expand hk prk info n).length = n := by
  unfold expand
  rw [List.length_take, expAll_length]
  have := up_le n hk.size hok.size_pos
  omega
theorem expand_prefix {hk : HK} (hok : hk.ok) (prk info : By) (x y : Nat) (h : x ≤ y) : (expand hk prk info y).take x = expand hk prk info x := by
  unfold expand
  rw [List.take_take, Nat.min_eq_left h]
  rw [← expAll_take hk prk info _ _ (up_mono x y hk.size h), List.take_take]
  congr 1
  have := up_le x hk.size hok.size_pos
  omega
theorem expand_mul {hk : HK} (hok : hk.ok) (prk info : By) (i : Nat) : expand hk prk info (i * hk.size) = expAll hk prk info i := by
  unfold expand
  rw [up_mul i hk.size hok.size_pos, List.take_of_length_le (Nat.le_of_eq (expAll_length _ _ _ _))]
theorem expAll_last (hk : HK) (prk info : By) (i : Nat) : (expAll hk prk info (i + 1)).drop (i * hk.size) = expT hk prk info (i + 1) := by
  simp only [expAll]
  rw [List.drop_append_of_le_length (by rw [expAll_length]; exact Nat.le_refl _), List.drop_of_length_le (by rw [expAll_length]; exact Nat.le_refl _), List.nil_append]
/-- The last block but one. -/
theorem expAll_ahead (hk : HK) (prk info : By) (i : Nat) : ((expAll hk prk info (i + 2)).take ((i + 1) * hk.size)).drop (i * hk.size) = expT hk prk info (i + 1) := by
  rw [expAll_take hk prk info (i + 1) (i + 2) (by omega), expAll_last]
theorem derAll_take (hk : HK) (pw salt : By) (m a b : Nat) (h : a ≤ b) : (derAll hk pw salt m b).take (a * hk.size) = derAll hk pw salt m a := by
  induction b with
  | zero => obtain rfl : a = 0 := by omega
            simp [derAll]
  | succ b ih =>
    by_cases hb : a ≤ b
    · have hm : a * hk.size ≤ b * hk.size := Nat.mul_le_mul_right _ hb
      simp only [derAll]
      rw [List.take_append_of_le_length (by rw [derAll_length]; exact hm)]
      exact ih hb
    · obtain rfl : a = b + 1 := by omega
      rw [List.take_of_length_le (Nat.le_of_eq (derAll_length _ _ _ _ _))]
theorem derive_length {hk : HK} (hok : hk.ok) (pw salt : By) (m n : Nat) : (derive hk pw salt m n).length = n := by
  unfold derive
  rw [List.length_take, derAll_length]
  have := up_le n hk.size hok.size_pos
  omega
theorem derive_prefix {hk : HK} (hok : hk.ok) (pw salt : By) (m x y : Nat) (h : x ≤ y) : (derive hk pw salt m y).take x = derive hk pw salt m x := by
  unfold derive
  rw [List.take_take, Nat.min_eq_left h]
  rw [← derAll_take hk pw salt m _ _ (up_mono x y hk.size h), List.take_take]
  congr 1
  have := up_le x hk.size hok.size_pos
  omega
theorem derive_mul {hk : HK} (hok : hk.ok) (pw salt : By) (m i : Nat) : derive hk pw salt m (i * hk.size) = derAll hk pw salt m i := by
  unfold derive
  rw [up_mul i hk.size hok.size_pos, List.take_of_length_le (Nat.le_of_eq (derAll_length _ _ _ _ _))]
theorem derAll_last (hk : HK) (pw salt : By) (m i : Nat) : (derAll hk pw salt m (i + 1)).drop (i * hk.size) = derF hk pw salt (i + 1) m := by
  simp only [derAll]
  rw [List.drop_append_of_le_length (by rw [derAll_length]; exact Nat.le_refl _), List.drop_of_length_le (by rw [derAll_length]; exact Nat.le_refl _), List.nil_append]
/-- One block. -/
theorem derive_one {hk : HK} (hok : hk.ok) (pw salt : By) (m : Nat) : derive hk pw salt m hk.size = derF hk pw salt 1 m := by
  have := derive_mul hok pw salt m 1
  rw [Nat.one_mul] at this
  rw [this]; rfl
theorem derU_noughts (hk : HK) (pw salt : By) (z i n : Nat) (h : pw.length + z ≤ hk.block) : derU hk (pw ++ List.replicate z 0) salt i n = derU hk pw salt i n := by
  induction n with
  | zero => exact mac_noughts hk pw _ z h
  | succ n ih => simp only [derU]; rw [ih, mac_noughts hk pw _ z h]
theorem derF_noughts (hk : HK) (pw salt : By) (z i n : Nat) (h : pw.length + z ≤ hk.block) : derF hk (pw ++ List.replicate z 0) salt i n = derF hk pw salt i n := by
  induction n with
  | zero => exact derU_noughts hk pw salt z i 0 h
  | succ n ih => simp only [derF]; rw [ih, derU_noughts hk pw salt z i (n + 1) h]
theorem derAll_noughts (hk : HK) (pw salt : By) (z m n : Nat) (h : pw.length + z ≤ hk.block) : derAll hk (pw ++ List.replicate z 0) salt m n = derAll hk pw salt m n := by
  induction n with
  | zero => rfl
  | succ n ih => simp only [derAll]; rw [ih, derF_noughts hk pw salt z _ m h]
theorem derive_noughts (hk : HK) (pw salt : By) (z m n : Nat) (h : pw.length + z ≤ hk.block) : derive hk (pw ++ List.replicate z 0) salt m n = derive hk pw salt m n := by
  unfold derive; rw [derAll_noughts hk pw salt z m _ h]
end Pu
end Go.Proofs.Ytgomodhhomekpaa

/-
  Slices of what came in; slices of slices that have just been made.
-/
namespace Go.Proofs.Ytgomodhhomekpaa
open Go.RowKit Pu Ar
theorem rd_ex {w : World} {v : Value} {l : By} (h : Rd w v l) : ∃ p cap, v = .slice p l.length cap := by
  obtain ⟨p, cap, hv, _⟩ := h; exact ⟨p, cap, hv⟩
/-- A slice of slices that has just been made. -/
theorem prd_new {w w1 : World} {b : Nat} {vs : List Value} {ps : List By} {n : Nat} (hn : n = ps.length) (hr : Row w1 b 24 vs) (k : Tch [] w w1) (hl : vs.length = ps.length) (hm : ps.length ≤ 1000) (h : ∀ (i : Nat) (u : Value) (x : By), vs[i]? = some u → ps[i]? = some x → Rd w u x) :
    PRd w1 (.slice (some ⟨b, 0, none⟩) n n) ps := by
  subst hn
  refine ⟨_, _, rfl, Nat.le_refl _, by unfold maxLen; omega, .inr ⟨b, 0, rfl, fun i x hx => ?_⟩⟩
  have hi : i < ps.length := by
    rcases Nat.lt_or_ge i ps.length with h | h
    · exact h
    · rw [List.getElem?_eq_none h] at hx; cases hx
  have e := List.getElem?_eq_getElem (l := vs) (show i < vs.length by omega)
  refine ⟨_, by rw [hr.cell, Nat.zero_add]; exact e, (h i _ x e hx).tchNil k⟩
theorem prd_three {w : World} {u v t : Value} {x y z : By} (hu : Rd w u x) (hv : Rd w v y) (ht : Rd w t z) : PRd (w.alloc (.cells #[u, v, t] 24)) (.slice (some ⟨w.heap.size, 0, none⟩) 3 3) [x, y, z] := by
  refine prd_new (vs := [u, v, t]) rfl (Row.new w 24 [u, v, t]) (Tch.alloc _ _) rfl (by simp) ?_
  intro i a b h1 h2
  match i with
  | 0 => simp at h1 h2; subst h1; subst h2; exact hu
  | 1 => simp at h1 h2; subst h1; subst h2; exact hv
  | 2 => simp at h1 h2; subst h1; subst h2; exact ht
  | i + 3 => simp at h1
theorem prd_two {w : World} {u v : Value} {x y : By} (hu : Rd w u x) (hv : Rd w v y) : PRd (w.alloc (.cells #[u, v] 24)) (.slice (some ⟨w.heap.size, 0, none⟩) 2 2) [x, y] := by
  refine prd_new (vs := [u, v]) rfl (Row.new w 24 [u, v]) (Tch.alloc _ _) rfl (by simp) ?_
  intro i a b h1 h2
  match i with
  | 0 => simp at h1 h2; subst h1; subst h2; exact hu
  | 1 => simp at h1 h2; subst h1; subst h2; exact hv
  | i + 2 => simp at h1
theorem prd_one {w : World} {u : Value} {x : By} (hu : Rd w u x) : PRd (w.alloc (.cells #[u] 24)) (.slice (some ⟨w.heap.size, 0, none⟩) 1 1) [x] := by
  refine prd_new (vs := [u]) rfl (Row.new w 24 [u]) (Tch.alloc _ _) rfl (by simp) ?_
  intro i a b h1 h2
  match i with
  | 0 => simp at h1 h2; subst h1; subst h2; exact hu
  | i + 1 => simp at h1
end Go.Proofs.Ytgomodhhomekpaa

/-
  append where there is room: a slice, a text, noughts; words written behind a row.
-/
namespace Go.Proofs.Ytgomodhhomekpaa
open Go.RowKit Pu Ar
/-- Block g is a row of cap bytes, the first of which are l. -/
def OwnC (w : World) (g cap : Nat) (l : By) : Prop := l.length ≤ cap ∧ cap ≤ maxLen ∧ ∃ cur, Row w g 5 cur ∧ cur.length = cap ∧ cur.take l.length = l.map vb
theorem OwnC.tch {S : List Nat} {w w' : World} {g cap : Nat} {l : By} (h : OwnC w g cap l) (k : Tch S w w') (hn : g ∉ S) : OwnC w' g cap l := by
  obtain ⟨h1, h2, cur, hr, h3⟩ := h
  exact ⟨h1, h2, cur, hr.tch k hn, h3⟩
theorem OwnC.own {w : World} {g cap : Nat} {l : By} (h : OwnC w g cap l) : Own w (.slice (some ⟨g, 0, none⟩) l.length cap) l := by
  obtain ⟨h1, h2, cur, hr, h3, h4⟩ := h
  exact ⟨by simp, .inr ⟨g, cap, cur.toArray, rfl, Nat.zero_le _, hr, h1, h2, by simp [h3], by simpa using h4⟩⟩
theorem OwnC.lt {w : World} {g cap : Nat} {l : By} (h : OwnC w g cap l) : g < w.heap.size := by
  obtain ⟨_, _, cur, hr, _⟩ := h; exact hr.lt
theorem OwnC.new (w : World) (n : Nat) (hn : n ≤ maxLen) : OwnC (w.alloc (.cells (List.replicate n (Value.int .u8 0)).toArray 5)) w.heap.size n [] :=
  ⟨Nat.zero_le _, hn, _, Row.new w 5 _, by simp, rfl⟩
theorem OwnC.put {w : World} {g cap : Nat} {l ys : By} {cur : List Value} (h1 : Row w g 5 cur) (h2 : cur.length = cap) (h3 : cur.take l.length = l.map vb) (hm : cap ≤ maxLen) (hroom : l.length + ys.length ≤ cap) :
    OwnC (w.setRow g (cur.take l.length ++ (ys.map vb ++ cur.drop (l.length + ys.length))).toArray) g cap (l ++ ys) := by
  refine ⟨by rw [List.length_append]; exact hroom, hm, _, h1.setRow _, ?_, ?_⟩
  · simp only [List.length_append, List.length_take, List.length_map, List.length_drop]; omega
  · rw [h3, List.length_append, ← List.append_assoc, List.map_append]
    have : l.length + ys.length = (l.map vb ++ ys.map vb).length := by simp
    rw [this]
    exact List.take_left' rfl
/-- A slice behind a row with room. -/
theorem run_append_c (w : World) (ty : TypeId) (g cap : Nat) (xs ys : By) (u : Value) (h : OwnC w g cap xs) (hy : Rd w u ys) (hroom : xs.length + ys.length ≤ cap) :
    ∃ w', (Builtin.append_ #[24, 24] ty #[.slice (some ⟨g, 0, none⟩) xs.length cap, u]).run Try.prog w = .ok (.slice (some ⟨g, 0, none⟩) (xs ++ ys).length cap) w' ∧ OwnC w' g cap (xs ++ ys) ∧ Tch [g] w w' := by
  obtain ⟨i, hi, hz0, hz1, hz2⟩ := info_parts infoByte
  have ht : Try.prog.underlying 24 = some (.slice 5) := Try.underlying24
  obtain ⟨h1, hm, cur, hr, hl, htk⟩ := id h
  obtain ⟨p, pc, rfl, hc, hmax, hrd⟩ := id hy
  by_cases h0 : ys = []
  · subst h0
    refine ⟨w, ?_, by simpa using h, Tch.refl _ _⟩
    cases p <;> simp [Builtin.append_, run_underlying ht, sizeOf, typeInfo, hi, Builtin.lenOf, Builtin.firstCells, loadCells, loadCellsFrom, storeCells, h1]
  · obtain ⟨ad, rfl, hnews⟩ := hy.news h0
    have hfit : xs.length * i.size + (ys.map vb).length ≤ cur.toArray.size := by rw [hz1, List.length_map]; simp; omega
    have hrun := run_append_room (P := Try.prog) w 24 ty 5 i ht hi g xs.length cap cur.toArray hr ad ys.length pc (ys.map vb) (by simp [hz1]) hnews (vbs_one ys) hroom hfit
    refine ⟨_, by rw [List.length_append]; exact hrun, ?_, Tch.setRow _ _ _ (by simp)⟩
    have := OwnC.put hr hl htk hm hroom
    simp only [hz1, Nat.mul_one, List.length_map]
    rw [List.append_assoc]
    exact this
/-- A text behind a row with room. -/
theorem run_append_str (w : World) (ty : TypeId) (g cap : Nat) (xs : By) (s : ByteArray) (h : OwnC w g cap xs) (hroom : xs.length + s.size ≤ cap) :
    ∃ w', (Builtin.append_ #[24, 9] ty #[.slice (some ⟨g, 0, none⟩) xs.length cap, .string s]).run Try.prog w = .ok (.slice (some ⟨g, 0, none⟩) (xs ++ s.data.toList).length cap) w' ∧ OwnC w' g cap (xs ++ s.data.toList) ∧ Tch [g] w w' := by
  obtain ⟨i, hi, hz0, hz1, hz2⟩ := info_parts infoByte
  have ht : Try.prog.underlying 24 = some (.slice 5) := Try.underlying24
  have hts : Try.prog.underlying 9 = some .string := Try.underlying9
  obtain ⟨h1, hm, cur, hr, hl, htk⟩ := id h
  have hsz : s.data.toList.length = s.size := by show s.data.toList.length = s.data.size; exact Array.length_toList
  have hst := run_storeCells_at Try.prog g (xs.length * i.size) 5 (s.data.toList.map vb) 0 cur.toArray w hr (by rw [hz1, List.length_map, hsz]; simp; omega) (vbs_one _)
  simp only [Nat.add_zero] at hst
  have e : List.take s.size (List.map (fun b : UInt8 => Value.int .u8 (b.toNat : Int)) s.data.toList) = s.data.toList.map vb := by
    rw [List.take_of_length_le (by rw [List.length_map, hsz]; exact Nat.le_refl _)]; rfl
  simp only [hz1, Nat.mul_one, List.length_map, hsz, List.append_assoc] at hst
  refine ⟨_, ?_, OwnC.put hr hl htk hm (by rw [hsz]; exact hroom), Tch.setRow _ _ _ (by simp)⟩
  have hroom' : xs.length + s.size ≤ cap := hroom
  simp [Builtin.append_, run_underlying ht, run_underlying hts, sizeOf, typeInfo, hi, Builtin.lenOf, hroom', Builtin.firstCells, Addr.add_lit, hsz, hz1, e, hst]
/-- Noughts behind a row with room. -/
theorem run_append_noughts (w : World) (ty : TypeId) (g cap n : Nat) (xs : By) (h : OwnC w g cap xs) (hroom : xs.length + n ≤ cap) (hn : n ≤ 1000) :
    ∃ w', (Builtin.append_ #[24, 3] ty #[.slice (some ⟨g, 0, none⟩) xs.length cap, .int .i64 (n : Int)]).run Try.prog w = .ok (.slice (some ⟨g, 0, none⟩) (xs ++ List.replicate n 0).length cap) w' ∧ OwnC w' g cap (xs ++ List.replicate n 0) ∧ Tch [g] w w' := by
  obtain ⟨i, hi, hz0, hz1, hz2⟩ := info_parts infoByte
  have ht : Try.prog.underlying 24 = some (.slice 5) := Try.underlying24
  have hti : Try.prog.underlying 3 = some (.int .i64) := Try.underlying3
  obtain ⟨h1, hm, cur, hr, hl, htk⟩ := id h
  have hst := run_storeCells_at Try.prog g (xs.length * i.size) 5 ((List.replicate n (0 : UInt8)).map vb) 0 cur.toArray w hr (by rw [hz1, List.length_map]; simp; omega) (vbs_one _)
  simp only [Nat.add_zero] at hst
  have hz : Builtin.zeroCells (Value.int .u8 0).cells n = ((List.replicate n (0 : UInt8)).map vb).toArray := by
    unfold Builtin.zeroCells
    apply Array.ext
    · simp [Value.cells]
    · intro j h1 h2
      simp [Value.cells, Nat.mod_one, vb, ib]
  have hw : IntKind.i64.wrap (n : Int) = n := by rw [IntKind.wrap_i64]; omega
  refine ⟨_, ?_, OwnC.put hr hl htk hm (by rw [List.length_replicate]; exact hroom), Tch.setRow _ _ _ (by simp)⟩
  have h3 : ¬ (n : Int) < 0 := by omega
  have h4 : ¬ (n : Int) * 1 > 2 ^ 48 := by omega
  simp only [hz1, Nat.mul_one, List.length_map, List.length_replicate, List.append_assoc] at hst
  by_cases h0 : n = 0
  · subst h0
    simp [Builtin.append_, run_underlying ht, run_underlying hti, sizeOf, typeInfo, hi, hz1, hz2, Addr.add_lit, asInt, asIntOf, IntKind.wrap_i64, h1]
    simp only [List.replicate_zero, List.map_nil] at hst
    rw [hst]
    simp
  · have h4' : ¬ (281474976710656 : Int) < (n : Int) := by omega
    simp only [List.map_replicate] at hst hz
    simp [Builtin.append_, run_underlying ht, run_underlying hti, sizeOf, typeInfo, hi, hz1, hz2, Addr.add_lit, asInt, asIntOf, hw, hroom, h3, h4', h0, hz0, hz, zeroValue, hst]
end Go.Proofs.Ytgomodhhomekpaa

/-
  A digest's state written out: AppendBinary, MarshalBinary.
-/
namespace Go.Proofs.Ytgomodhhomekpaa
open Go.RowKit Pu Ar
theorem wpList_append_c {w : World} {ops : Array Oper} {rest : List Oper} {o : Oper} {a : Act} {Q : Exit → Act → World → Prop} (hgd : o.guard = none) (s x : Operand)
    (ho : o.op = .call { callee := .builtin .append, args := #[s, x], argTypes := #[24, 24] }) (g cap n N : Nat) (u : Value) (xs ys : By) (hn : n = xs.length) (hN : N = (xs ++ ys).length) (hs : a.eval s = .slice (some ⟨g, 0, none⟩) n cap) (hx : a.eval x = u)
    (hown : OwnC w g cap xs) (hy : Rd w u ys) (hroom : xs.length + ys.length ≤ cap)
    (h : ∀ w', Hid (OwnC w' g cap (xs ++ ys) ∧ Tch [g] w w') → wpList Try.prog ops Q rest (a.put o.dst (.slice (some ⟨g, 0, none⟩) N cap)) w') : wpList Try.prog ops Q (o :: rest) a w := by
  obtain ⟨w', hr, h1⟩ := run_append_c w o.type g cap xs ys u hown hy hroom
  subst hn hN
  refine wpList_plain hgd fun _ hK => ?_
  unfold Oper.wp execOp
  simp only [ho, resolve, invoke, builtin, Sem.run_bind, Sem.run_pure, Result.andThen_ok, List.map_toArray, List.map_cons, List.map_nil, hs, hx, hr]
  exact hK _ _ (h w' h1)
theorem rd_cells (w : World) (l : By) (cs : Array Value) (n : Nat) (hn : n = l.length) (hl : l.length ≤ 1000) (h : cs.toList = l.map vb) : Rd (w.alloc (.cells cs 5)) (.slice (some ⟨w.heap.size, 0, none⟩) n n) l := by
  obtain ⟨cl⟩ := cs
  simp only at h
  subst h
  subst hn
  refine ⟨some ⟨w.heap.size, 0, none⟩, _, rfl, Nat.le_refl _, by unfold maxLen; omega, .inr ⟨_, 0, rfl, fun i x hx => ?_⟩⟩
  have := (Row.new w 5 (l.map vb)).cell (0 + i)
  rw [this, Nat.zero_add, List.getElem?_map, hx]; rfl
set_option maxRecDepth 100000 in
theorem app32 (g cap n : Nat) (xs : By) (x : UInt32) (w : World) (h : OwnC w g cap xs) (hn : n = xs.length) (hroom : n + 4 ≤ cap) :
    Calls Try.prog 106 #[.slice (some ⟨g, 0, none⟩) n cap, .int .u32 (iw x)] w fun e w' => e = .returned (.slice (some ⟨g, 0, none⟩) (n + 4) cap) ∧ Hid (OwnC w' g cap (xs ++ be32 x) ∧ Tch [g] w w') := by
  have e1 := shr32_24 x
  have e2 := shr32_16 x
  have e3 := shr32_8 x
  have e4 := low32
  have H := Lib.hid h
  have HR := Lib.hid hroom
  have HN := Lib.hid hn
  clear h hroom hn
  go_enter Try.func106, Try.ntmps106
  go_wp2_with (refine wpList_append_c rfl _ _ rfl g cap n (n + 4) _ xs (be32 x) HN.out (by rw [List.length_append, ← HN.out]; rfl) rfl rfl (H.out.tch (S := []) (Tch.alloc _ _) (by simp)) (rd_cells w (be32 x) _ 4 rfl (by simp [be32]) rfl) (by have := HR.out; rw [← HN.out]; exact this) ?_)
  intro w' h5
  go_wp2
  go_ret
  exact ⟨rfl, h5.out.1, (Tch.alloc (S := [g]) w _).trans h5.out.2⟩
set_option maxRecDepth 100000 in
theorem app64 (g cap n : Nat) (xs : By) (x : UInt64) (w : World) (h : OwnC w g cap xs) (hn : n = xs.length) (hroom : n + 8 ≤ cap) :
    Calls Try.prog 107 #[.slice (some ⟨g, 0, none⟩) n cap, .int .u64 (iq x)] w fun e w' => e = .returned (.slice (some ⟨g, 0, none⟩) (n + 8) cap) ∧ Hid (OwnC w' g cap (xs ++ be64 x) ∧ Tch [g] w w') := by
  have d0 := shr64_56 x
  have d1 := shr64_48 x
  have d2 := shr64_40 x
  have d3 := shr64_32 x
  have d4 := shr64_24 x
  have d5 := shr64_16 x
  have d6 := shr64_8 x
  have e4 := low64
  have H := Lib.hid h
  have HR := Lib.hid hroom
  have HN := Lib.hid hn
  clear h hroom hn
  go_enter Try.func107, Try.ntmps107
  go_wp2_with (refine wpList_append_c rfl _ _ rfl g cap n (n + 8) _ xs (be64 x) HN.out (by rw [List.length_append, ← HN.out]; rfl) rfl rfl (H.out.tch (S := []) (Tch.alloc _ _) (by simp)) (rd_cells w (be64 x) _ 8 rfl (by simp [be64]) rfl) (by have := HR.out; rw [← HN.out]; exact this) ?_)
  intro w' h5
  go_wp2
  go_ret
  exact ⟨rfl, h5.out.1, (Tch.alloc (S := [g]) w _).trans h5.out.2⟩
theorem wpList_append_str {w : World} {ops : Array Oper} {rest : List Oper} {o : Oper} {a : Act} {Q : Exit → Act → World → Prop} (hgd : o.guard = none) (s x : Operand)
    (ho : o.op = .call { callee := .builtin .append, args := #[s, x], argTypes := #[24, 9] }) (g cap n N : Nat) (u : ByteArray) (xs : By) (hn : n = xs.length) (hN : N = (xs ++ u.data.toList).length) (hs : a.eval s = .slice (some ⟨g, 0, none⟩) n cap) (hx : a.eval x = .string u)
    (hown : OwnC w g cap xs) (hroom : xs.length + u.size ≤ cap)
    (h : ∀ w', Hid (OwnC w' g cap (xs ++ u.data.toList) ∧ Tch [g] w w') → wpList Try.prog ops Q rest (a.put o.dst (.slice (some ⟨g, 0, none⟩) N cap)) w') : wpList Try.prog ops Q (o :: rest) a w := by
  obtain ⟨w', hr, h1⟩ := run_append_str w o.type g cap xs u hown hroom
  subst hn hN
  refine wpList_plain hgd fun _ hK => ?_
  unfold Oper.wp execOp
  simp only [ho, resolve, invoke, builtin, Sem.run_bind, Sem.run_pure, Result.andThen_ok, List.map_toArray, List.map_cons, List.map_nil, hs, hx, hr]
  exact hK _ _ (h w' h1)
theorem wpList_append_noughts {w : World} {ops : Array Oper} {rest : List Oper} {o : Oper} {a : Act} {Q : Exit → Act → World → Prop} (hgd : o.guard = none) (s x : Operand)
    (ho : o.op = .call { callee := .builtin .append, args := #[s, x], argTypes := #[24, 3] }) (g cap n N m : Nat) (i : Int) (hi : i = m) (xs : By) (hn : n = xs.length) (hN : N = xs.length + m) (hs : a.eval s = .slice (some ⟨g, 0, none⟩) n cap) (hx : a.eval x = .int .i64 i)
    (hown : OwnC w g cap xs) (hroom : xs.length + m ≤ cap) (hm : m ≤ 1000)
    (h : ∀ w', Hid (OwnC w' g cap (xs ++ List.replicate m 0) ∧ Tch [g] w w') → wpList Try.prog ops Q rest (a.put o.dst (.slice (some ⟨g, 0, none⟩) N cap)) w') : wpList Try.prog ops Q (o :: rest) a w := by
  obtain ⟨w', hr, h1⟩ := run_append_noughts w o.type g cap m xs hown hroom hm
  rw [List.length_append, List.length_replicate] at hr
  subst hn hN hi
  refine wpList_plain hgd fun _ hK => ?_
  unfold Oper.wp execOp
  simp only [ho, resolve, invoke, builtin, Sem.run_bind, Sem.run_pure, Result.andThen_ok, List.map_toArray, List.map_cons, List.map_nil, hs, hx, hr]
  exact hK _ _ (h w' h1)
/-- The words of a state, so many of them. -/
def S8.list (s : S8) : List UInt32 := [s.a, s.b, s.c, s.d, s.e, s.f, s.g, s.h]
def magic : By := [115, 104, 97, 3]
/-- A state written out, behind whole blocks. -/
def marsh (s : S8) (ln : Nat) : By := magic ++ be32 s.a ++ be32 s.b ++ be32 s.c ++ be32 s.d ++ be32 s.e ++ be32 s.f ++ be32 s.g ++ be32 s.h ++ [] ++ List.replicate 64 0 ++ be64 (UInt64.ofNat ln)
theorem marsh_length (s : S8) (ln : Nat) : (marsh s ln).length = 108 := rfl
set_option maxHeartbeats 1000000 in
set_option maxRecDepth 100000 in
theorem digAppend (b g : Nat) (s : S8) (x : By) (ln : Nat) (w : World) (hD : Dig w b s x 0 ln) (hl : ln < 18446744073709551616) (hg : OwnC w g 108 []) (hne : b ≠ g) :
    Calls Try.prog 101 #[.pointer (some ⟨b, 0, none⟩), .slice (some ⟨g, 0, none⟩) 0 108] w fun e w' => e = .returned (.tuple #[.slice (some ⟨g, 0, none⟩) 108 108, .nilIface]) ∧ Hid (OwnC w' g 108 (marsh s ln) ∧ Tch [g] w w') := by
  have hx64 := hD.len
  have c74 := hD.is224
  have hiq : (ln : Int) = iq (UInt64.ofNat ln) := by
    unfold iq
    rw [UInt64.toNat_ofNat', Nat.mod_eq_of_lt hl]
  have HD : Hid (∀ w', Tch [g] w w' → w'.cell? ⟨b, 0, none⟩ = some (.int .u32 (iw s.a)) ∧ w'.cell? ⟨b, 1, none⟩ = some (.int .u32 (iw s.b)) ∧ w'.cell? ⟨b, 2, none⟩ = some (.int .u32 (iw s.c)) ∧ w'.cell? ⟨b, 3, none⟩ = some (.int .u32 (iw s.d)) ∧ w'.cell? ⟨b, 4, none⟩ = some (.int .u32 (iw s.e)) ∧ w'.cell? ⟨b, 5, none⟩ = some (.int .u32 (iw s.f)) ∧ w'.cell? ⟨b, 6, none⟩ = some (.int .u32 (iw s.g)) ∧ w'.cell? ⟨b, 7, none⟩ = some (.int .u32 (iw s.h)) ∧ w'.cell? ⟨b, 72, none⟩ = some (.int .i64 0) ∧ w'.cell? ⟨b, 73, none⟩ = some (.int .u64 (iq (UInt64.ofNat ln)))) := by
    intro w' k
    have hr := (hD.tch k (by simpa using hne)).row
    refine ⟨?_, ?_, ?_, ?_, ?_, ?_, ?_, ?_, ?_, ?_⟩
    all_goals first | (rw [hr.cell]; rfl) | skip
    · exact (hD.tch k (by simpa using hne)).nx
    · rw [← hiq]; exact (hD.tch k (by simpa using hne)).ln
  have HG := Lib.hid hg
  have HNE := Lib.hid hne
  clear hD hl hg hne hx64 hiq
  have hnot : (Op.unary .not (.bool false)) = pure (.bool true) := rfl
  go_enter Try.func101, Try.ntmps101
  go_wp2_with (refine wpList_append_str rfl _ _ rfl g 108 0 4 ⟨#[115, 104, 97, 3]⟩ [] rfl rfl rfl rfl HG.out (by decide) ?_)
  intro w0 h0
  have M0 : Hid (OwnC w0 g 108 magic) := h0.out.1
  have T0 : Hid (Tch [g] w w0) := h0.out.2
  clear h0 c74
  have d0 := (HD.out w0 T0.out).1
  go_wp2_with (fail)
  refine (app32 g 108 4 (magic) s.a w0 M0.out rfl (by omega)).mono ?_
  rintro e w1 ⟨rfl, h1⟩
  have M1 : Hid (OwnC w1 g 108 (magic ++ be32 s.a)) := h1.out.1
  have T1 : Hid (Tch [g] w w1) := T0.out.trans h1.out.2
  clear d0 h1 M0 T0
  have d1 := (HD.out w1 T1.out).2.1
  go_wp2_with (fail)
  refine (app32 g 108 8 (magic ++ be32 s.a) s.b w1 M1.out rfl (by omega)).mono ?_
  rintro e w2 ⟨rfl, h2⟩
  have M2 : Hid (OwnC w2 g 108 (magic ++ be32 s.a ++ be32 s.b)) := h2.out.1
  have T2 : Hid (Tch [g] w w2) := T1.out.trans h2.out.2
  clear d1 h2 M1 T1
  have d2 := (HD.out w2 T2.out).2.2.1
  go_wp2_with (fail)
  refine (app32 g 108 12 (magic ++ be32 s.a ++ be32 s.b) s.c w2 M2.out rfl (by omega)).mono ?_
  rintro e w3 ⟨rfl, h3⟩
  have M3 : Hid (OwnC w3 g 108 (magic ++ be32 s.a ++ be32 s.b ++ be32 s.c)) := h3.out.1
  have T3 : Hid (Tch [g] w w3) := T2.out.trans h3.out.2
  clear d2 h3 M2 T2
  have d3 := (HD.out w3 T3.out).2.2.2.1
  go_wp2_with (fail)
  refine (app32 g 108 16 (magic ++ be32 s.a ++ be32 s.b ++ be32 s.c) s.d w3 M3.out rfl (by omega)).mono ?_
  rintro e w4 ⟨rfl, h4⟩
  have M4 : Hid (OwnC w4 g 108 (magic ++ be32 s.a ++ be32 s.b ++ be32 s.c ++ be32 s.d)) := h4.out.1
  have T4 : Hid (Tch [g] w w4) := T3.out.trans h4.out.2
  clear d3 h4 M3 T3
  have d4 := (HD.out w4 T4.out).2.2.2.2.1
  go_wp2_with (fail)
  refine (app32 g 108 20 (magic ++ be32 s.a ++ be32 s.b ++ be32 s.c ++ be32 s.d) s.e w4 M4.out rfl (by omega)).mono ?_
  rintro e w5 ⟨rfl, h5⟩
  have M5 : Hid (OwnC w5 g 108 (magic ++ be32 s.a ++ be32 s.b ++ be32 s.c ++ be32 s.d ++ be32 s.e)) := h5.out.1
  have T5 : Hid (Tch [g] w w5) := T4.out.trans h5.out.2
  clear d4 h5 M4 T4
  have d5 := (HD.out w5 T5.out).2.2.2.2.2.1
  go_wp2_with (fail)
  refine (app32 g 108 24 (magic ++ be32 s.a ++ be32 s.b ++ be32 s.c ++ be32 s.d ++ be32 s.e) s.f w5 M5.out rfl (by omega)).mono ?_
  rintro e w6 ⟨rfl, h6⟩
  have M6 : Hid (OwnC w6 g 108 (magic ++ be32 s.a ++ be32 s.b ++ be32 s.c ++ be32 s.d ++ be32 s.e ++ be32 s.f)) := h6.out.1
  have T6 : Hid (Tch [g] w w6) := T5.out.trans h6.out.2
  clear d5 h6 M5 T5
  have d6 := (HD.out w6 T6.out).2.2.2.2.2.2.1
  go_wp2_with (fail)
  refine (app32 g 108 28 (magic ++ be32 s.a ++ be32 s.b ++ be32 s.c ++ be32 s.d ++ be32 s.e ++ be32 s.f) s.g w6 M6.out rfl (by omega)).mono ?_
  rintro e w7 ⟨rfl, h7⟩
  have M7 : Hid (OwnC w7 g 108 (magic ++ be32 s.a ++ be32 s.b ++ be32 s.c ++ be32 s.d ++ be32 s.e ++ be32 s.f ++ be32 s.g)) := h7.out.1
  have T7 : Hid (Tch [g] w w7) := T6.out.trans h7.out.2
  clear d6 h7 M6 T6
  have d7 := (HD.out w7 T7.out).2.2.2.2.2.2.2.1
  go_wp2_with (fail)
  refine (app32 g 108 32 (magic ++ be32 s.a ++ be32 s.b ++ be32 s.c ++ be32 s.d ++ be32 s.e ++ be32 s.f ++ be32 s.g) s.h w7 M7.out rfl (by omega)).mono ?_
  rintro e w8 ⟨rfl, h8⟩
  have M8 : Hid (OwnC w8 g 108 (magic ++ be32 s.a ++ be32 s.b ++ be32 s.c ++ be32 s.d ++ be32 s.e ++ be32 s.f ++ be32 s.g ++ be32 s.h)) := h8.out.1
  have T8 : Hid (Tch [g] w w8) := T7.out.trans h8.out.2
  clear d7 h8 M7 T7
  have d8 := (HD.out w8 T8.out).2.2.2.2.2.2.2.2.1
  go_wp2
  refine wp_region_quiet_tail 9 (by kernel_rfl) (by kernel_rfl) ?_
  simp only [List.take_succ_cons, List.take_zero, List.drop_succ_cons, List.drop_zero]
  repeat (go_big_quiet_step (fail))
  refine wpQuiet_nil ?_
  have M9 : Hid (OwnC w8.drew g 108 (magic ++ be32 s.a ++ be32 s.b ++ be32 s.c ++ be32 s.d ++ be32 s.e ++ be32 s.f ++ be32 s.g ++ be32 s.h ++ [])) := by rw [List.append_nil]; exact M8.out.tch (S := []) (Tch.drewN w8 1) (by simp)
  have T9 : Hid (Tch [g] w w8.drew) := T8.out.trans (Tch.drewN w8 1)
  go_wp2_with (refine wpList_append_noughts rfl _ _ rfl g 108 36 100 64 _ rfl (magic ++ be32 s.a ++ be32 s.b ++ be32 s.c ++ be32 s.d ++ be32 s.e ++ be32 s.f ++ be32 s.g ++ be32 s.h ++ []) rfl rfl rfl rfl M9.out (show (100 : Nat) ≤ 108 by omega) (by omega) ?_)
  intro w10 h10
  have M10 : Hid (OwnC w10 g 108 (magic ++ be32 s.a ++ be32 s.b ++ be32 s.c ++ be32 s.d ++ be32 s.e ++ be32 s.f ++ be32 s.g ++ be32 s.h ++ [] ++ List.replicate 64 0)) := h10.out.1
  have T10 : Hid (Tch [g] w w10) := T9.out.trans h10.out.2
  clear h10 M9 T9 d8 M8 T8
  have d9 := (HD.out w10 T10.out).2.2.2.2.2.2.2.2.2
  go_wp2_with (fail)
  refine (app64 g 108 100 (magic ++ be32 s.a ++ be32 s.b ++ be32 s.c ++ be32 s.d ++ be32 s.e ++ be32 s.f ++ be32 s.g ++ be32 s.h ++ [] ++ List.replicate 64 0) (UInt64.ofNat ln) w10 M10.out rfl (by omega)).mono ?_
  rintro e w11 ⟨rfl, h11⟩
  go_wp2
  go_ret2
  exact ⟨rfl, h11.out.1, T10.out.trans h11.out.2⟩
end Go.Proofs.Ytgomodhhomekpaa

/-
  MarshalBinary; words read out of bytes.
-/
namespace Go.Proofs.Ytgomodhhomekpaa
open Go.RowKit Pu Ar
/-- What MarshalBinary hands back. -/
def MBE (w : World) (l : By) (e : Ending) (w' : World) : Prop :=
  ∃ g, e = .returned (.tuple #[.slice (some ⟨g, 0, none⟩) 108 108, .nilIface]) ∧ Hid (OwnC w' g 108 l ∧ Tch [] w w' ∧ w.heap.size ≤ g)
set_option maxRecDepth 100000 in
theorem digMarshal (kt : List UInt32) (b : Nat) (l : By) (w : World) (hD : DigIs w b kt l) (hl : l.length % 64 = 0) (hlen : l.length ≤ 1099511627776) :
    Calls Try.prog 96 #[.pointer (some ⟨b, 0, none⟩)] w (MBE w (marsh (blocks kt init l) l.length)) := by
  obtain ⟨hl0, x, hd, hx⟩ := hD
  rw [hl] at hd
  have hb := hd.row.lt
  have HD := Lib.hid hd
  have HB := Lib.hid hb
  have HL := Lib.hid hlen
  clear hl hlen hd hb hx hl0
  obtain ⟨W, hW⟩ : ∃ W, W = w.alloc (.cells (List.replicate 108 (Value.int .u8 0)).toArray 5) := ⟨_, rfl⟩
  have hmk : (Instr.makeSlice 24 (.int .i64 0) (.int .i64 108)).run Try.prog w = .ok (.slice (some ⟨w.heap.size, 0, none⟩) 0 108) W := by
    rw [hW]; exact run_make_by 0 108 (by omega) (by omega) w
  have OC : Hid (OwnC W w.heap.size 108 []) := by rw [hW]; exact OwnC.new w 108 (by unfold maxLen; omega)
  have TW : Hid (Tch [] w W) := by rw [hW]; exact Tch.alloc _ _
  clear hW
  go_enter Try.func96, Try.ntmps96
  go_wp2_with (fail)
  refine (digAppend b w.heap.size _ x l.length W (HD.out.tch TW.out (by simp)) (by have := HL.out; omega) OC.out (Nat.ne_of_lt HB.out)).mono ?_
  rintro e w' ⟨rfl, h⟩
  go_wp2
  go_ret2
  exact ⟨_, rfl, h.out.1, TW.out.new h.out.2 (by intro i hi; right; rw [List.mem_singleton.1 hi]; exact Nat.le_refl _), Nat.le_refl _⟩
/-- A word out of four bytes. -/
def un32 (l : By) : UInt32 := word (l.getD 0 0) (l.getD 1 0) (l.getD 2 0) (l.getD 3 0)
def un64 (l : By) : UInt64 := (l.getD 0 0).toUInt64 <<< 56 ||| (l.getD 1 0).toUInt64 <<< 48 ||| (l.getD 2 0).toUInt64 <<< 40 ||| (l.getD 3 0).toUInt64 <<< 32 ||| (l.getD 4 0).toUInt64 <<< 24 ||| (l.getD 5 0).toUInt64 <<< 16 ||| (l.getD 6 0).toUInt64 <<< 8 ||| (l.getD 7 0).toUInt64
theorem sor (a b i : Nat) (h : b < 2 ^ i) : a <<< i ||| b = a * 2 ^ i + b := by
  rw [← Nat.shiftLeft_add_eq_or_of_lt h, Nat.shiftLeft_eq]
theorem un_be32 (x : UInt32) (l : By) : un32 (be32 x ++ l) = x := by
  simp only [un32, be32, word, List.cons_append, List.nil_append, List.getD_cons_zero, List.getD_cons_succ]
  apply UInt32.toNat_inj.1
  have hx := Ar.lt32 x
  rw [UInt32.or_assoc, UInt32.or_assoc]
  simp only [UInt32.toNat_or, UInt32.toNat_shiftLeft, UInt8.toNat_toUInt32, UInt32.toNat_toUInt8, UInt32.toNat_shiftRight, Nat.shiftRight_eq_div_pow]
  simp
  generalize x.toNat = n at hx ⊢
  obtain ⟨a0, h0⟩ : ∃ a, a = n / 16777216 % 256 := ⟨_, rfl⟩
  rw [← h0]
  obtain ⟨a1, h1⟩ : ∃ a, a = n / 65536 % 256 := ⟨_, rfl⟩
  rw [← h1]
  obtain ⟨a2, h2⟩ : ∃ a, a = n / 256 % 256 := ⟨_, rfl⟩
  rw [← h2]
  obtain ⟨a3, h3⟩ : ∃ a, a = n % 256 := ⟨_, rfl⟩
  rw [← h3]
  have b0 : a0 < 256 := by omega
  have b1 : a1 < 256 := by omega
  have b2 : a2 < 256 := by omega
  have b3 : a3 < 256 := by omega
  have en : n = a0 * 16777216 + a1 * 65536 + a2 * 256 + a3 := by omega
  clear h0 h1 h2 h3
  rw [show a0 <<< 24 % 4294967296 = a0 <<< 24 by rw [Nat.shiftLeft_eq]; exact Nat.mod_eq_of_lt (by omega)]
  rw [show a1 <<< 16 % 4294967296 = a1 <<< 16 by rw [Nat.shiftLeft_eq]; exact Nat.mod_eq_of_lt (by omega)]
  rw [show a2 <<< 8 % 4294967296 = a2 <<< 8 by rw [Nat.shiftLeft_eq]; exact Nat.mod_eq_of_lt (by omega)]
  rw [sor _ _ 8 (by omega)]
  rw [sor _ _ 16 (by omega)]
  rw [sor _ _ 24 (by omega)]
  omega
theorem un_be64 (x : UInt64) (l : By) : un64 (be64 x ++ l) = x := by
  simp only [un64, be64, List.cons_append, List.nil_append, List.getD_cons_zero, List.getD_cons_succ]
  apply UInt64.toNat_inj.1
  have hx := Ar.lt64 x
  rw [UInt64.or_assoc, UInt64.or_assoc, UInt64.or_assoc, UInt64.or_assoc, UInt64.or_assoc, UInt64.or_assoc]
  simp only [UInt64.toNat_or, UInt64.toNat_shiftLeft, UInt8.toNat_toUInt64, UInt64.toNat_toUInt8, UInt64.toNat_shiftRight, Nat.shiftRight_eq_div_pow]
  simp
  generalize x.toNat = n at hx ⊢
  obtain ⟨a0, h0⟩ : ∃ a, a = n / 72057594037927936 % 256 := ⟨_, rfl⟩
  rw [← h0]
  obtain ⟨a1, h1⟩ : ∃ a, a = n / 281474976710656 % 256 := ⟨_, rfl⟩
  rw [← h1]
  obtain ⟨a2, h2⟩ : ∃ a, a = n / 1099511627776 % 256 := ⟨_, rfl⟩
  rw [← h2]
  obtain ⟨a3, h3⟩ : ∃ a, a = n / 4294967296 % 256 := ⟨_, rfl⟩
  rw [← h3]
  obtain ⟨a4, h4⟩ : ∃ a, a = n / 16777216 % 256 := ⟨_, rfl⟩
  rw [← h4]
  obtain ⟨a5, h5⟩ : ∃ a, a = n / 65536 % 256 := ⟨_, rfl⟩
  rw [← h5]
  obtain ⟨a6, h6⟩ : ∃ a, a = n / 256 % 256 := ⟨_, rfl⟩
  rw [← h6]
  obtain ⟨a7, h7⟩ : ∃ a, a = n % 256 := ⟨_, rfl⟩
  rw [← h7]
  have b0 : a0 < 256 := by omega
  have b1 : a1 < 256 := by omega
  have b2 : a2 < 256 := by omega
  have b3 : a3 < 256 := by omega
  have b4 : a4 < 256 := by omega
  have b5 : a5 < 256 := by omega
  have b6 : a6 < 256 := by omega
  have b7 : a7 < 256 := by omega
  have en : n = a0 * 72057594037927936 + a1 * 281474976710656 + a2 * 1099511627776 + a3 * 4294967296 + a4 * 16777216 + a5 * 65536 + a6 * 256 + a7 := by omega
  clear h0 h1 h2 h3 h4 h5 h6 h7
  rw [show a0 <<< 56 % 18446744073709551616 = a0 <<< 56 by rw [Nat.shiftLeft_eq]; exact Nat.mod_eq_of_lt (by omega)]
  rw [show a1 <<< 48 % 18446744073709551616 = a1 <<< 48 by rw [Nat.shiftLeft_eq]; exact Nat.mod_eq_of_lt (by omega)]
  rw [show a2 <<< 40 % 18446744073709551616 = a2 <<< 40 by rw [Nat.shiftLeft_eq]; exact Nat.mod_eq_of_lt (by omega)]
  rw [show a3 <<< 32 % 18446744073709551616 = a3 <<< 32 by rw [Nat.shiftLeft_eq]; exact Nat.mod_eq_of_lt (by omega)]
  rw [show a4 <<< 24 % 18446744073709551616 = a4 <<< 24 by rw [Nat.shiftLeft_eq]; exact Nat.mod_eq_of_lt (by omega)]
  rw [show a5 <<< 16 % 18446744073709551616 = a5 <<< 16 by rw [Nat.shiftLeft_eq]; exact Nat.mod_eq_of_lt (by omega)]
  rw [show a6 <<< 8 % 18446744073709551616 = a6 <<< 8 by rw [Nat.shiftLeft_eq]; exact Nat.mod_eq_of_lt (by omega)]
  rw [sor _ _ 8 (by omega)]
  rw [sor _ _ 16 (by omega)]
  rw [sor _ _ 24 (by omega)]
  rw [sor _ _ 32 (by omega)]
  rw [sor _ _ 40 (by omega)]
  rw [sor _ _ 48 (by omega)]
  rw [sor _ _ 56 (by omega)]
  omega
end Go.Proofs.Ytgomodhhomekpaa

/-
  Words read out of bytes: beUint32, beUint64, consumeUint32, consumeUint64.
-/
namespace Go.Proofs.Ytgomodhhomekpaa
open Go.RowKit Pu Ar
theorem byte64_wrap (a : UInt8) : IntKind.u64.wrap (ib a) = iq a.toUInt64 := by
  unfold ib; rw [wrap_of64]; simp [iq]
theorem shl64_8 (x : UInt64) (yk : IntKind) : Op.shift .shl .u64 (iq x) yk 8 = pure (.int .u64 (iq (x <<< 8))) := by
  simp only [Op.shift, iq]; simp [IntKind.bits, UInt64.toNat_shiftLeft, Nat.shiftLeft_eq, IntKind.wrap_u64]
theorem shl64_16 (x : UInt64) (yk : IntKind) : Op.shift .shl .u64 (iq x) yk 16 = pure (.int .u64 (iq (x <<< 16))) := by
  simp only [Op.shift, iq]; simp [IntKind.bits, UInt64.toNat_shiftLeft, Nat.shiftLeft_eq, IntKind.wrap_u64]
theorem shl64_24 (x : UInt64) (yk : IntKind) : Op.shift .shl .u64 (iq x) yk 24 = pure (.int .u64 (iq (x <<< 24))) := by
  simp only [Op.shift, iq]; simp [IntKind.bits, UInt64.toNat_shiftLeft, Nat.shiftLeft_eq, IntKind.wrap_u64]
theorem shl64_32 (x : UInt64) (yk : IntKind) : Op.shift .shl .u64 (iq x) yk 32 = pure (.int .u64 (iq (x <<< 32))) := by
  simp only [Op.shift, iq]; simp [IntKind.bits, UInt64.toNat_shiftLeft, Nat.shiftLeft_eq, IntKind.wrap_u64]
theorem shl64_40 (x : UInt64) (yk : IntKind) : Op.shift .shl .u64 (iq x) yk 40 = pure (.int .u64 (iq (x <<< 40))) := by
  simp only [Op.shift, iq]; simp [IntKind.bits, UInt64.toNat_shiftLeft, Nat.shiftLeft_eq, IntKind.wrap_u64]
theorem shl64_48 (x : UInt64) (yk : IntKind) : Op.shift .shl .u64 (iq x) yk 48 = pure (.int .u64 (iq (x <<< 48))) := by
  simp only [Op.shift, iq]; simp [IntKind.bits, UInt64.toNat_shiftLeft, Nat.shiftLeft_eq, IntKind.wrap_u64]
theorem shl64_56 (x : UInt64) (yk : IntKind) : Op.shift .shl .u64 (iq x) yk 56 = pure (.int .u64 (iq (x <<< 56))) := by
  simp only [Op.shift, iq]; simp [IntKind.bits, UInt64.toNat_shiftLeft, Nat.shiftLeft_eq, IntKind.wrap_u64]
theorem or4 (A B C D : UInt32) : A ||| B ||| C ||| D = D ||| C ||| B ||| A := by
  rw [UInt32.or_comm (A ||| B ||| C) D, UInt32.or_comm (A ||| B) C, UInt32.or_comm (A) B, ← UInt32.or_assoc, ← UInt32.or_assoc]
theorem or8 (A B C D E F G H : UInt64) : A ||| B ||| C ||| D ||| E ||| F ||| G ||| H = H ||| G ||| F ||| E ||| D ||| C ||| B ||| A := by
  rw [UInt64.or_comm (A ||| B ||| C ||| D ||| E ||| F ||| G) H, UInt64.or_comm (A ||| B ||| C ||| D ||| E ||| F) G, UInt64.or_comm (A ||| B ||| C ||| D ||| E) F, UInt64.or_comm (A ||| B ||| C ||| D) E, UInt64.or_comm (A ||| B ||| C) D, UInt64.or_comm (A ||| B) C, UInt64.or_comm (A) B, ← UInt64.or_assoc, ← UInt64.or_assoc, ← UInt64.or_assoc, ← UInt64.or_assoc, ← UInt64.or_assoc, ← UInt64.or_assoc]
theorem rd_at {w : World} {b o n c : Nat} {l : By} (h : Rd w (.slice (some ⟨b, o, none⟩) n c) l) (j : Nat) (hj : j < l.length) : w.cell? ⟨b, o + j, none⟩ = some (.int .u8 (ib (l.getD j 0))) := by
  obtain ⟨p, cap, hv, _, _, hr⟩ := h
  simp only [Value.slice.injEq] at hv
  obtain ⟨rfl, _, _⟩ := hv
  rcases hr with hr | ⟨b', o', hp, hr⟩
  · rw [hr] at hj; simp at hj
  · simp only [Option.some.injEq, Addr.mk.injEq] at hp
    obtain ⟨rfl, rfl, -⟩ := hp
    exact hr j (l.getD j 0) (by rw [List.getD_eq_getElem?_getD, List.getElem?_eq_getElem hj]; rfl)
theorem nm_some {w : World} {v : Value} {l : By} (h : Rd w v l) (hn : Nm v) (h0 : 0 < l.length) : ∃ b o c, v = .slice (some ⟨b, o, none⟩) l.length c := by
  obtain ⟨p, cap, rfl, _⟩ := h
  rcases hn with e | ⟨b, o, n, c, e⟩
  · simp only [Value.slice.injEq] at e; omega
  · simp only [Value.slice.injEq] at e
    exact ⟨b, o, cap, by rw [e.1]⟩
set_option maxRecDepth 100000 in
theorem rBe32 (v : Value) (l : By) (w : World) (h : Rd w v l) (hn : Nm v) (hl : 4 ≤ l.length) :
    Calls Try.prog 110 #[v] w fun e w' => e = .returned (.int .u32 (iw (un32 l))) ∧ ∃ n, w' = w.drewN n := by
  obtain ⟨b, o, c, rfl⟩ := nm_some h hn (by omega)
  have c0 : w.cell? ⟨b, o, none⟩ = some (.int .u8 (ib (l.getD 0 0))) := rd_at h 0 (by omega)
  have c1 := rd_at h 1 (by omega)
  have c2 := rd_at h 2 (by omega)
  have c3 := rd_at h 3 (by omega)
  have hu : un32 l = (l.getD 3 0).toUInt32 ||| (l.getD 2 0).toUInt32 <<< 8 ||| (l.getD 1 0).toUInt32 <<< 16 ||| (l.getD 0 0).toUInt32 <<< 24 := by
    unfold un32 word; exact or4 _ _ _ _
  rw [hu]
  clear hu
  generalize l.getD 0 0 = x0 at c0 ⊢
  generalize l.getD 1 0 = x1 at c1 ⊢
  generalize l.getD 2 0 = x2 at c2 ⊢
  generalize l.getD 3 0 = x3 at c3 ⊢
  have hln : (4 : Int) ≤ (l.length : Int) := by omega
  have hln2 : (l.length : Int) ≤ 9223372036854775807 := by have := h.len; unfold maxLen at this; omega
  have e1 := fun x => Ar.shl32_24 x
  have e2 := fun x => Ar.shl32_16 x
  have e3 := fun x => Ar.shl32_8 x
  have e4 := Ar.bits_or32
  have e5 := Ar.byte32_wrap
  clear h hn hl
  go_enter Try.func110, Try.ntmps110
  go_wp2
  go_quiet (fail)
  go_wp2
  go_ret
  exact ⟨rfl, _, rfl⟩
set_option maxHeartbeats 1000000 in
set_option maxRecDepth 100000 in
theorem rBe64 (v : Value) (l : By) (w : World) (h : Rd w v l) (hn : Nm v) (hl : 8 ≤ l.length) :
    Calls Try.prog 111 #[v] w fun e w' => e = .returned (.int .u64 (iq (un64 l))) ∧ ∃ n, w' = w.drewN n := by
  obtain ⟨b, o, c, rfl⟩ := nm_some h hn (by omega)
  have c0 : w.cell? ⟨b, o, none⟩ = some (.int .u8 (ib (l.getD 0 0))) := rd_at h 0 (by omega)
  have c1 := rd_at h 1 (by omega)
  have c2 := rd_at h 2 (by omega)
  have c3 := rd_at h 3 (by omega)
  have c4 := rd_at h 4 (by omega)
  have c5 := rd_at h 5 (by omega)
  have c6 := rd_at h 6 (by omega)
  have c7 := rd_at h 7 (by omega)
  have hu : un64 l = (l.getD 7 0).toUInt64 ||| (l.getD 6 0).toUInt64 <<< 8 ||| (l.getD 5 0).toUInt64 <<< 16 ||| (l.getD 4 0).toUInt64 <<< 24 ||| (l.getD 3 0).toUInt64 <<< 32 ||| (l.getD 2 0).toUInt64 <<< 40 ||| (l.getD 1 0).toUInt64 <<< 48 ||| (l.getD 0 0).toUInt64 <<< 56 := by
    unfold un64; exact or8 _ _ _ _ _ _ _ _
  rw [hu]
  clear hu
  generalize l.getD 0 0 = x0 at c0 ⊢
  generalize l.getD 1 0 = x1 at c1 ⊢
  generalize l.getD 2 0 = x2 at c2 ⊢
  generalize l.getD 3 0 = x3 at c3 ⊢
  generalize l.getD 4 0 = x4 at c4 ⊢
  generalize l.getD 5 0 = x5 at c5 ⊢
  generalize l.getD 6 0 = x6 at c6 ⊢
  generalize l.getD 7 0 = x7 at c7 ⊢
  have hln : (8 : Int) ≤ (l.length : Int) := by omega
  have hln2 : (l.length : Int) ≤ 9223372036854775807 := by have := h.len; unfold maxLen at this; omega
  have e1 := fun x => shl64_8 x
  have e2 := fun x => shl64_16 x
  have e3 := fun x => shl64_24 x
  have e6 := fun x => shl64_32 x
  have e7 := fun x => shl64_40 x
  have e8 := fun x => shl64_48 x
  have e9 := fun x => shl64_56 x
  have e4 := Ar.bits_or64
  have e5 := byte64_wrap
  clear h hn hl
  go_enter Try.func111, Try.ntmps111
  go_wp2
  go_quiet (fail)
  go_wp2
  go_ret
  exact ⟨rfl, _, rfl⟩
end Go.Proofs.Ytgomodhhomekpaa

/-
  consumeUint32, consumeUint64.
-/
namespace Go.Proofs.Ytgomodhhomekpaa
open Go.RowKit Pu Ar
theorem nm_cut {w : World} {v : Value} {l : By} (h : Rd w v l) (hn : Nm v) (k : Nat) (hk : k ≤ l.length) : ∀ w, (Instr.slice 24 v (some (.int .i64 (k : Int))) none none).run Try.prog w = .ok (cut v k) w := by
  obtain ⟨p, cap, rfl, hc, _⟩ := h
  exact fun w => run_cut w _ l.length cap k p rfl hn hk hc
set_option maxRecDepth 100000 in
theorem con32 (v : Value) (l : By) (w : World) (h : Rd w v l) (hn : Nm v) (hl : 4 ≤ l.length) :
    Calls Try.prog 103 #[v] w fun e w' => e = .returned (.tuple #[cut v 4, .int .u32 (iw (un32 l))]) ∧ ∃ n, w' = w.drewN n := by
  have hs : ∀ w, (Instr.slice 24 v (some (.int .i64 4)) none none).run Try.prog w = .ok (cut v 4) w := nm_cut h hn 4 hl
  have HC : Hid (∀ n, Calls Try.prog 110 #[v] (w.drewN n) fun e w' => e = .returned (.int .u32 (iw (un32 l))) ∧ ∃ m, w' = (w.drewN n).drewN m) := fun n => rBe32 v l _ (h.tchNil (Tch.drewN w n)) hn hl
  clear h hn hl
  generalize un32 l = X at HC ⊢
  generalize cut v 4 = V at hs ⊢
  go_enter Try.func103, Try.ntmps103
  go_wp2
  go_quiet ((go_at_call 110; with_reducible apply Calls.quiet_of; exact HC.out _))
  go_wp2
  go_ret2
  exact ⟨rfl, _, rfl⟩
set_option maxRecDepth 100000 in
theorem con64 (v : Value) (l : By) (w : World) (h : Rd w v l) (hn : Nm v) (hl : 8 ≤ l.length) :
    Calls Try.prog 104 #[v] w fun e w' => e = .returned (.tuple #[cut v 8, .int .u64 (iq (un64 l))]) ∧ ∃ n, w' = w.drewN n := by
  have hs : ∀ w, (Instr.slice 24 v (some (.int .i64 8)) none none).run Try.prog w = .ok (cut v 8) w := nm_cut h hn 8 hl
  have HC : Hid (∀ n, Calls Try.prog 111 #[v] (w.drewN n) fun e w' => e = .returned (.int .u64 (iq (un64 l))) ∧ ∃ m, w' = (w.drewN n).drewN m) := fun n => rBe64 v l _ (h.tchNil (Tch.drewN w n)) hn hl
  clear h hn hl
  generalize un64 l = X at HC ⊢
  generalize cut v 8 = V at hs ⊢
  go_enter Try.func104, Try.ntmps104
  go_wp2
  go_quiet ((go_at_call 111; with_reducible apply Calls.quiet_of; exact HC.out _))
  go_wp2
  go_ret2
  exact ⟨rfl, _, rfl⟩
end Go.Proofs.Ytgomodhhomekpaa

/-
  More frames, slot by slot.
-/
namespace Go.Proofs.Ytgomodhhomekpaa
open Go.RowKit
set_option maxRecDepth 100000 in
theorem lit137 (a : Act) (h : Frm 137 a) : a = ⟨#[G a 0, G a 1, G a 2, G a 3, G a 4, G a 5, G a 6, G a 7, G a 8, G a 9, G a 10, G a 11, G a 12, G a 13, G a 14, G a 15, G a 16, G a 17, G a 18, G a 19, G a 20, G a 21, G a 22, G a 23, G a 24, G a 25, G a 26, G a 27, G a 28, G a 29, G a 30, G a 31, G a 32, G a 33, G a 34, G a 35, G a 36, G a 37, G a 38, G a 39, G a 40, G a 41, G a 42, G a 43, G a 44, G a 45, G a 46, G a 47, G a 48, G a 49, G a 50, G a 51, G a 52, G a 53, G a 54, G a 55, G a 56, G a 57, G a 58, G a 59, G a 60, G a 61, G a 62, G a 63, G a 64, G a 65, G a 66, G a 67, G a 68, G a 69, G a 70, G a 71, G a 72, G a 73, G a 74, G a 75, G a 76, G a 77, G a 78, G a 79, G a 80, G a 81, G a 82, G a 83, G a 84, G a 85, G a 86, G a 87, G a 88, G a 89, G a 90, G a 91, G a 92, G a 93, G a 94, G a 95, G a 96, G a 97, G a 98, G a 99, G a 100, G a 101, G a 102, G a 103, G a 104, G a 105, G a 106, G a 107, G a 108, G a 109, G a 110, G a 111, G a 112, G a 113, G a 114, G a 115, G a 116, G a 117, G a 118, G a 119, G a 120, G a 121, G a 122, G a 123, G a 124, G a 125, G a 126, G a 127, G a 128, G a 129, G a 130, G a 131, G a 132, G a 133, G a 134, G a 135, G a 136], []⟩ := lit_of a h
set_option maxRecDepth 100000 in
theorem lit25 (a : Act) (h : Frm 25 a) : a = ⟨#[G a 0, G a 1, G a 2, G a 3, G a 4, G a 5, G a 6, G a 7, G a 8, G a 9, G a 10, G a 11, G a 12, G a 13, G a 14, G a 15, G a 16, G a 17, G a 18, G a 19, G a 20, G a 21, G a 22, G a 23, G a 24], []⟩ := lit_of a h
set_option maxRecDepth 100000 in
theorem lit18 (a : Act) (h : Frm 18 a) : a = ⟨#[G a 0, G a 1, G a 2, G a 3, G a 4, G a 5, G a 6, G a 7, G a 8, G a 9, G a 10, G a 11, G a 12, G a 13, G a 14, G a 15, G a 16, G a 17], []⟩ := lit_of a h
set_option maxRecDepth 100000 in
theorem lit22 (a : Act) (h : Frm 22 a) : a = ⟨#[G a 0, G a 1, G a 2, G a 3, G a 4, G a 5, G a 6, G a 7, G a 8, G a 9, G a 10, G a 11, G a 12, G a 13, G a 14, G a 15, G a 16, G a 17, G a 18, G a 19, G a 20, G a 21], []⟩ := lit_of a h
end Go.Proofs.Ytgomodhhomekpaa
