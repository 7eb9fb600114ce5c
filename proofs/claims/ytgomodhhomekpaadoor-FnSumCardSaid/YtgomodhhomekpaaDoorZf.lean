/-
  spec.Hash: the loops of the hash that is handed in.
-/
import Derived.Test.YtgomodhhomekpaaDoorM4
namespace Go.Proofs.YtgomodhhomekpaaDoor
open Go.RowKit Pu Ar
def HLX (l : List Nat) (a : Act) (w : World) (a' : Act) (w' : World) : Prop := Frm 89 a' ∧ Same l a a' ∧ w' = w
def HLP (c : Nat) (keep : List Nat) (a : Act) (w : World) (g i : Nat) (st : By) (a' : Act) (w' : World) : Prop :=
  Frm 89 a' ∧ Same keep a a' ∧ G a' c = .int .i64 ((i : Int) + 1) ∧ Hid (Row w' g 5 (st.map vb) ∧ Tch [g] w w')
def HLE (keep : List Nat) (a : Act) (w : World) (g : Nat) (st : By) (a' : Act) (w' : World) : Prop :=
  Frm 89 a' ∧ Same keep a a' ∧ Hid (Row w' g 5 (st.map vb) ∧ Tch [g] w w')
theorem ib_small (i : Nat) (h : i < 256) : ib (UInt8.ofNat i) = (i : Int) := by
  unfold ib; rw [UInt8.toNat_ofNat', Nat.mod_eq_of_lt (by omega)]
/-! ### the beginning -/
def hlK1 : List Nat := [1, 5, 7]
set_option maxHeartbeats 1000000 in
set_option maxRecDepth 100000 in
theorem hl1Round (a : Act) (w : World) (h : Frm 89 a) (Q : Exit → Act → World → Prop) (g z i : Nat) (st : By)
    (hi : i < z) (hz : z ≤ 16) (hst : st.length = z) (hR : Row w g 5 (st.map vb))
    (g7 : G a 7 = .slice (some ⟨g, 0, none⟩) z z) (g26 : G a 26 = .int .i64 (z : Int)) (g27 : G a 27 = .int .i64 (i : Int))
    (hQ : ∀ a' w', HLP 27 (26 :: hlK1) a w g i (st.set i (UInt8.ofNat i)) a' w' → Q .normal a' w') :
    (part (bodyOf Tryd.f8) [true, true, true, true, false, true, false, false]).wp Tryd.prog Q a w := by
  have hii : (i : Int) < z := by omega
  have hzz : (z : Int) ≤ 16 := by omega
  have ci : w.cell? ⟨g, i, none⟩ = some (.int .u8 (ib (st.getD i 0))) := by
    rw [hR.cell]; simp [List.getD_eq_getElem?_getD, List.getElem?_eq_getElem (show i < st.length by omega), vb]
  have fi := hR.free i
  have HE : Hid (ib (UInt8.ofNat i) = (i : Int)) := ib_small i (by omega)
  have HR := Lib.hid hR
  conv => arg 2; whnf
  rw [lit89 a h]
  have E7 := Lib.hid g7
  have E26 := Lib.hid g26
  simp only [g7, g26, g27]
  clear h g7 g26 g27 hR hi hz hst
  refine wp_seq_k (fun K0 k0 => ?_)
  have J0 := Lib.hid k0
  clear k0
  go_wp2
  refine J0.out _ _ ?_
  refine wp_seq_k (fun K9 k9 => ?_)
  have J9 := Lib.hid k9
  clear k9 J0
  go_wp2
  refine J9.out _ _ ?_
  refine wp_seq_k (fun K1 k1 => ?_)
  have J1 := Lib.hid k1
  clear k1 J9
  refine wp_block ?_
  refine wp_seq_k (fun K2 k2 => ?_)
  have J2 := Lib.hid k2
  clear k2
  go_wp2
  refine J2.out _ _ ?_
  go_wp2
  generalize hW1 : World.setCell _ _ _ = W1
  have R1 : Hid (Row W1 g 5 ((st.set i (UInt8.ofNat i)).map vb) ∧ Tch [g] w W1) := by
    rw [← hW1, ← HE.out, List.map_set]
    exact ⟨HR.out.set i _, Tch.setCell _ _ _ (by simp)⟩
  clear hW1 ci fi HR
  refine J1.out _ _ ?_
  go_wp2
  have e7 := E7.out
  have e26 := E26.out
  exact ⟨⟨rfl, rfl⟩, ⟨e26.symm, rfl, rfl, e7.symm, trivial⟩, rfl, R1⟩
set_option maxRecDepth 100000 in
theorem hl1Leave (a : Act) (w : World) (h : Frm 89 a) (Q : Exit → Act → World → Prop) (z : Nat) (g26 : G a 26 = .int .i64 (z : Int)) (g27 : G a 27 = .int .i64 (z : Int))
    (hQ : ∀ a' w', HLX hlK1 a w a' w' → Q (.exit 0) a' w') :
    (part (bodyOf Tryd.f8) [true, true, true, true, false, true, false, false]).wp Tryd.prog Q a w := by
  conv => arg 2; whnf
  rw [lit89 a h]
  simp only [g26, g27]
  clear h g26 g27
  go_wp2
  exact ⟨⟨rfl, rfl⟩, ⟨rfl, rfl, rfl, trivial⟩, rfl⟩
theorem hl1_eq : part (bodyOf Tryd.f8) [true, true, true, true, false, true, false] = .loop (part (bodyOf Tryd.f8) [true, true, true, true, false, true, false, false]) := by kernel_rfl
structure HL1I (a0 : Act) (w0 : World) (g z i : Nat) (a : Act) (w : World) : Prop where
  frm : Frm 89 a
  same : Same (26 :: hlK1) a0 a
  le : i ≤ z
  g27 : G a 27 = .int .i64 (i : Int)
  row : Row w g 5 (((ownInit z).take i ++ List.replicate (z - i) 0).map vb)
  tch : Tch [g] w0 w
theorem init_set (z i : Nat) (hi : i < z) : ((ownInit z).take i ++ List.replicate (z - i) (0 : UInt8)).set i (UInt8.ofNat i) = (ownInit z).take (i + 1) ++ List.replicate (z - (i + 1)) 0 := by
  have hl : ((ownInit z).take i).length = i := by simp [ownInit]; omega
  have hz : i < (ownInit z).length := by simp [ownInit]; omega
  rw [List.set_append_right _ _ (by omega), hl, Nat.sub_self, show z - i = (z - (i + 1)) + 1 by omega, List.replicate_succ, List.set_cons_zero, List.take_succ_eq_append_getElem hz, List.append_assoc]
  simp [ownInit]
theorem hl1Loop (a : Act) (w : World) (h : Frm 89 a) (Q : Exit → Act → World → Prop) (g z : Nat) (hz : z ≤ 16) (hR : Row w g 5 (List.replicate z (.int .u8 0)))
    (g7 : G a 7 = .slice (some ⟨g, 0, none⟩) z z) (g26 : G a 26 = .int .i64 (z : Int)) (g27 : G a 27 = .int .i64 0)
    (hQ : ∀ a' w', HLE hlK1 a w g (ownInit z) a' w' → Q (.exit 0) a' w') :
    (part (bodyOf Tryd.f8) [true, true, true, true, false, true, false]).wp Tryd.prog Q a w := by
  rw [hl1_eq]
  refine wp_loop (fun a' w' => ∃ i, HL1I a w g z i a' w') (fun a' _ => z - (intOf (G a' 27)).toNat) ⟨0, h, by simp [Same, hlK1], by omega, g27, by simpa [vb, ib] using hR, Tch.refl _ _⟩ ?_
  rintro a1 w1 ⟨i, I⟩
  by_cases hi : i < z
  · refine hl1Round a1 w1 I.frm _ g z i _ hi hz (by simp [ownInit]; omega) I.row ((I.same.get 7 rfl).trans g7) ((I.same.get 26 rfl).trans g26) I.g27 ?_
    rintro a' w' ⟨p1, p2, p3, p4⟩
    simp only [Exit.then]
    have r := p4.out.1
    rw [init_set z i hi] at r
    refine ⟨⟨i + 1, p1, ?_, by omega, by rw [p3]; push_cast; rfl, r, I.tch.trans p4.out.2⟩, ?_⟩
    · have s := I.same
      simp only [Same, hlK1] at s p2 ⊢
      simp only [p2, s, and_self]
    · rw [p3, I.g27]; simp [intOf]; omega
  · have hi' : i = z := by have := I.le; omega
    subst hi'
    refine hl1Leave a1 w1 I.frm _ i ((I.same.get 26 rfl).trans g26) I.g27 ?_
    rintro a' w' ⟨p1, p2, rfl⟩
    simp only [Exit.then]
    have r := I.row
    rw [List.take_of_length_le (by simp [ownInit]), Nat.sub_self, List.replicate_zero, List.append_nil] at r
    refine hQ _ _ ⟨p1, ?_, r, I.tch⟩
    have s := I.same
    simp only [Same, hlK1] at s p2 ⊢
    simp only [p2, s, and_self]
/-! ### the bytes taken in -/
set_option maxHeartbeats 1000000 in
set_option maxRecDepth 100000 in
theorem hl2Round (a : Act) (w : World) (h : Frm 89 a) (Q : Exit → Act → World → Prop) (g z i pb po len cap : Nat) (st : By) (x : UInt8)
    (hi : i < len) (hl : (len : Int) ≤ 2147483647) (hz1 : 1 ≤ z) (hz : z ≤ 16) (hst : st.length = z) (hR : Row w g 5 (st.map vb)) (cx : w.cell? ⟨pb, po + i, none⟩ = some (.int .u8 (ib x)))
    (g5 : G a 5 = .int .i64 (z : Int)) (g7 : G a 7 = .slice (some ⟨g, 0, none⟩) z z) (g36 : G a 36 = .slice (some ⟨pb, po, none⟩) len cap) (g37 : G a 37 = .int .i64 (len : Int)) (g38 : G a 38 = .int .i64 (i : Int))
    (hQ : ∀ a' w', HLP 38 [1, 5, 7, 36, 37] a w g i (ownStep z st i x) a' w' → Q .normal a' w') :
    (part (bodyOf Tryd.f8) [true, true, true, true, true, false, true, false, false]).wp Tryd.prog Q a w := by
  have hii : (i : Int) < len := by omega
  have hzz : (z : Int) ≤ 16 := by omega
  have hz0 : (1 : Int) ≤ z := by omega
  have hk : i % z < z := Nat.mod_lt _ hz1
  have hk1 : (i + 1) % z < z := Nat.mod_lt _ hz1
  have hki : (i : Int) % (z : Int) < z := by exact_mod_cast hk
  have hki0 : 0 ≤ (i : Int) % (z : Int) := by omega
  have hk1i : ((i : Int) + 1) % (z : Int) < z := by exact_mod_cast hk1
  have hk1i0 : 0 ≤ ((i : Int) + 1) % (z : Int) := Int.emod_nonneg _ (by omega)
  have s1 : w.cell? ⟨g, i % z, none⟩ = some (.int .u8 (ib (st.getD (i % z) 0))) := by
    rw [hR.cell]; simp [List.getD_eq_getElem?_getD, List.getElem?_eq_getElem (show i % z < st.length by omega), vb]
  have f1 := hR.free (i % z)
  have e1 := Ar.wrap_mul31
  have e2 := Ar.wrap_add8
  have e3 := Ar.wrap_of8 i
  have e4 := Ar.bits_xor8
  have HR := Lib.hid hR
  have HST := Lib.hid hst
  conv => arg 2; whnf
  rw [lit89 a h]
  have E5 := Lib.hid g5
  have E7 := Lib.hid g7
  have E36 := Lib.hid g36
  have E37 := Lib.hid g37
  simp only [g5, g7, g36, g37, g38]
  clear h g5 g7 g36 g37 g38 hR hst hi
  refine wp_seq_k (fun K0 k0 => ?_)
  have J0 := Lib.hid k0
  clear k0
  go_wp2
  refine J0.out _ _ ?_
  refine wp_seq_k (fun K9 k9 => ?_)
  have J9 := Lib.hid k9
  clear k9 J0
  go_wp2
  refine J9.out _ _ ?_
  refine wp_seq_k (fun K1 k1 => ?_)
  have J1 := Lib.hid k1
  clear k1 J9
  refine wp_block ?_
  refine wp_seq_k (fun K2 k2 => ?_)
  have J2 := Lib.hid k2
  clear k2
  go_wp2
  refine J2.out _ _ ?_
  refine wp_seq_k (fun K3 k3 => ?_)
  have J3 := Lib.hid k3
  clear k3 J2
  go_wp2
  refine J3.out _ _ ?_
  refine wp_seq_k (fun K4 k4 => ?_)
  have J4 := Lib.hid k4
  clear k4 J3
  go_wp2
  generalize hv : (31 * st[i % z]?.getD 0 + x + UInt8.ofNat i) = v
  generalize hW1 : World.setCell _ _ _ = W1
  have T1 : Tch [g] w W1 := by rw [← hW1]; exact Tch.setCell _ _ _ (by simp)
  have R1 : Row W1 g 5 ((st.set (i % z) v).map vb) := by
    rw [← hW1, List.map_set]; exact HR.out.set _ _
  have HV := Lib.hid hv
  clear hW1 hv s1 f1 cx
  have l1 : (st.set (i % z) v).length = z := by rw [List.length_set, HST.out]
  have s1 : W1.cell? ⟨g, i % z, none⟩ = some (.int .u8 (ib v)) := by
    rw [R1.cell]; simp [HST.out, hk, vb]
  obtain ⟨y, hy⟩ : ∃ y, y = (st.set (i % z) v).getD ((i + 1) % z) 0 := ⟨_, rfl⟩
  have s2 : W1.cell? ⟨g, (i + 1) % z, none⟩ = some (.int .u8 (ib y)) := by
    rw [R1.cell, hy, List.getElem?_map, List.getD_eq_getElem?_getD, List.getElem?_eq_getElem (by omega)]; rfl
  have f2 := R1.free ((i + 1) % z)
  have HR1 := Lib.hid R1
  have HY := Lib.hid hy
  have HT1 := Lib.hid T1
  clear R1 hy T1 l1
  refine J4.out _ _ ?_
  refine wp_region_quiet_tail 13 (by kernel_rfl) (by kernel_rfl) ?_
  simp only [List.take_succ_cons, List.take_zero, List.drop_succ_cons, List.drop_zero]
  repeat (go_big_quiet_step (fail))
  refine wpQuiet_nil ?_
  go_wp2
  generalize hW2 : (World.setCell _ _ _).drew = W2
  have hst2 : ((st.set (i % z) v).map vb).set ((i + 1) % z) (.int .u8 (ib (y ^^^ v))) = (ownStep z st i x).map vb := by
    have e : v = 31 * st.getD (i % z) 0 + x + UInt8.ofNat i := by rw [← HV.out, List.getD_eq_getElem?_getD]
    have e2 : (st.set (i % z) v).getD (i % z) 0 = v := by simp [List.getD_eq_getElem?_getD, HST.out, hk]
    simp only [ownStep]
    rw [← e, e2, ← HY.out, List.map_set (l := st.set _ _)]; rfl
  have R2 : Hid (Row W2 g 5 ((ownStep z st i x).map vb) ∧ Tch [g] w W2) := by
    rw [← hst2, ← hW2]
    exact ⟨(HR1.out.set _ _).drewN 1, HT1.out.trans ((Tch.setCell _ _ _ (by simp)).trans (Tch.drewN _ 1))⟩
  clear hW2 hst2 s1 s2 f2 hki hki0 hk1i hk1i0 hk hk1 e3
  refine J1.out _ _ ?_
  go_wp2
  have e5 := E5.out
  have e7 := E7.out
  have e36 := E36.out
  have e37 := E37.out
  exact ⟨⟨rfl, rfl⟩, ⟨rfl, e5.symm, e7.symm, e36.symm, e37.symm, trivial⟩, rfl, R2⟩
set_option maxRecDepth 100000 in
theorem hl2Leave (a : Act) (w : World) (h : Frm 89 a) (Q : Exit → Act → World → Prop) (len : Nat) (g37 : G a 37 = .int .i64 (len : Int)) (g38 : G a 38 = .int .i64 (len : Int))
    (hQ : ∀ a' w', HLX [1, 5, 7] a w a' w' → Q (.exit 2) a' w') :
    (part (bodyOf Tryd.f8) [true, true, true, true, true, false, true, false, false]).wp Tryd.prog Q a w := by
  conv => arg 2; whnf
  rw [lit89 a h]
  simp only [g37, g38]
  clear h g37 g38
  go_wp2
  exact ⟨⟨rfl, rfl⟩, ⟨rfl, rfl, rfl, trivial⟩, rfl⟩
theorem hl2_eq : part (bodyOf Tryd.f8) [true, true, true, true, true, false, true, false] = .loop (part (bodyOf Tryd.f8) [true, true, true, true, true, false, true, false, false]) := by kernel_rfl
structure HL2I (a0 : Act) (w0 : World) (g z : Nat) (p : By) (i : Nat) (a : Act) (w : World) : Prop where
  frm : Frm 89 a
  same : Same [1, 5, 7, 36, 37] a0 a
  le : i ≤ p.length
  g38 : G a 38 = .int .i64 (i : Int)
  row : Row w g 5 ((ownState z (p.take i)).map vb)
  tch : Tch [g] w0 w
theorem hl2Loop (a : Act) (w : World) (h : Frm 89 a) (Q : Exit → Act → World → Prop) (g z : Nat) (p : By) (v : Value) (hz1 : 1 ≤ z) (hz : z ≤ 16) (hR : Row w g 5 ((ownInit z).map vb)) (hv : Rd w v p) (hoff : p ≠ [] → Off [g] v) (hl : p.length ≤ 2147483647)
    (g5 : G a 5 = .int .i64 (z : Int)) (g7 : G a 7 = .slice (some ⟨g, 0, none⟩) z z) (g36 : G a 36 = v) (g37 : G a 37 = .int .i64 (p.length : Int)) (g38 : G a 38 = .int .i64 0)
    (hQ : ∀ a' w', HLE [1, 5, 7] a w g (ownState z p) a' w' → Q (.exit 2) a' w') :
    (part (bodyOf Tryd.f8) [true, true, true, true, true, false, true, false]).wp Tryd.prog Q a w := by
  rw [hl2_eq]
  obtain ⟨q, cap, hve, hcap, hmax, hrd⟩ := hv
  refine wp_loop (fun a' w' => ∃ i, HL2I a w g z p i a' w') (fun a' _ => p.length - (intOf (G a' 38)).toNat) ⟨0, h, by simp [Same], by omega, g38, hR, Tch.refl _ _⟩ ?_
  rintro a1 w1 ⟨i, I⟩
  by_cases hi : i < p.length
  · obtain ⟨pb, po, rfl, hcell⟩ : ∃ pb po, q = some ⟨pb, po, none⟩ ∧ ∀ i x, p[i]? = some x → w.cell? ⟨pb, po + i, none⟩ = some (vb x) := by
      rcases hrd with h | h
      · rw [h] at hi; simp at hi
      · exact h
    have hx := I.tch.cell (hcell i _ (List.getElem?_eq_getElem hi)) (hoff (by intro e; rw [e] at hi; simp at hi) pb (by rw [hve]; rfl))
    refine hl2Round a1 w1 I.frm _ g z i pb po p.length cap _ p[i] hi (by omega) hz1 hz (ownState_length _ _) I.row hx ((I.same.get 5 rfl).trans g5) ((I.same.get 7 rfl).trans g7) ((I.same.get 36 rfl).trans (g36.trans hve)) ((I.same.get 37 rfl).trans g37) I.g38 ?_
    rintro a' w' ⟨p1, p2, p3, p4⟩
    simp only [Exit.then]
    have r := p4.out.1
    have e : ownStep z (ownState z (p.take i)) i p[i] = ownState z (p.take (i + 1)) := by
      rw [List.take_succ_eq_append_getElem hi, ownState_snoc, List.length_take, Nat.min_eq_left (by omega)]
    rw [e] at r
    refine ⟨⟨i + 1, p1, ?_, by omega, by rw [p3]; push_cast; rfl, r, I.tch.trans p4.out.2⟩, ?_⟩
    · have s := I.same
      simp only [Same] at s p2 ⊢
      simp only [p2, s, and_self]
    · rw [p3, I.g38]; simp [intOf]; omega
  · have hi' : i = p.length := by have := I.le; omega
    subst hi'
    refine hl2Leave a1 w1 I.frm _ p.length ((I.same.get 37 rfl).trans g37) I.g38 ?_
    rintro a' w' ⟨p1, p2, rfl⟩
    simp only [Exit.then]
    have r := I.row
    rw [List.take_length] at r
    refine hQ _ _ ⟨p1, ?_, r, I.tch⟩
    have s := I.same
    simp only [Same] at s p2 ⊢
    simp only [p2, s, and_self]
/-! ### the end -/
set_option maxHeartbeats 1000000 in
set_option maxRecDepth 100000 in
theorem hl3Round (a : Act) (w : World) (h : Frm 89 a) (Q : Exit → Act → World → Prop) (g z i n cap : Nat) (q : Option Addr) (st : By)
    (hi : i < z) (hz : z ≤ 16) (hst : st.length = z) (hn : n ≤ 2147483647) (hR : Row w g 5 (st.map vb))
    (g1 : G a 1 = .slice q n cap) (g7 : G a 7 = .slice (some ⟨g, 0, none⟩) z z) (g74 : G a 74 = .int .i64 (z : Int)) (g75 : G a 75 = .int .i64 (i : Int))
    (hQ : ∀ a' w', HLP 75 [1, 7, 74] a w g i (st.set i (st.getD i 0 + UInt8.ofNat n)) a' w' → Q .normal a' w') :
    (part (bodyOf Tryd.f8) [true, true, true, true, true, true, false, true, false, false]).wp Tryd.prog Q a w := by
  have hii : (i : Int) < z := by omega
  have hzz : (z : Int) ≤ 16 := by omega
  have hnn : (n : Int) ≤ 2147483647 := by omega
  have ci : w.cell? ⟨g, i, none⟩ = some (.int .u8 (ib (st.getD i 0))) := by
    rw [hR.cell]; simp [List.getD_eq_getElem?_getD, List.getElem?_eq_getElem (show i < st.length by omega), vb]
  have fi := hR.free i
  generalize hy : st.getD i 0 = y at ci hQ
  have e2 := Ar.wrap_add8
  have e3 := Ar.wrap_of8 n
  have HR := Lib.hid hR
  conv => arg 2; whnf
  rw [lit89 a h]
  have E1 := Lib.hid g1
  have E7 := Lib.hid g7
  have E74 := Lib.hid g74
  simp only [g1, g7, g74, g75]
  clear h g1 g7 g74 g75 hR hi hz hst hn hy
  refine wp_seq_k (fun K0 k0 => ?_)
  have J0 := Lib.hid k0
  clear k0
  go_wp2
  refine J0.out _ _ ?_
  refine wp_seq_k (fun K9 k9 => ?_)
  have J9 := Lib.hid k9
  clear k9 J0
  go_wp2
  refine J9.out _ _ ?_
  refine wp_seq_k (fun K1 k1 => ?_)
  have J1 := Lib.hid k1
  clear k1 J9
  refine wp_block ?_
  refine wp_seq_k (fun K2 k2 => ?_)
  have J2 := Lib.hid k2
  clear k2
  go_wp2
  refine J2.out _ _ ?_
  go_wp2
  generalize hW1 : World.setCell _ _ _ = W1
  have R1 : Hid (Row W1 g 5 ((st.set i (y + UInt8.ofNat n)).map vb) ∧ Tch [g] w W1) := by
    rw [← hW1, List.map_set]
    exact ⟨HR.out.set i _, Tch.setCell _ _ _ (by simp)⟩
  clear hW1 ci fi HR
  refine J1.out _ _ ?_
  go_wp2
  have e1 := E1.out
  have e7 := E7.out
  have e74 := E74.out
  exact ⟨⟨rfl, rfl⟩, ⟨e1.symm, e7.symm, e74.symm, trivial⟩, rfl, R1⟩
set_option maxRecDepth 100000 in
theorem hl3Leave (a : Act) (w : World) (h : Frm 89 a) (Q : Exit → Act → World → Prop) (z : Nat) (g74 : G a 74 = .int .i64 (z : Int)) (g75 : G a 75 = .int .i64 (z : Int))
    (hQ : ∀ a' w', HLX [7] a w a' w' → Q (.exit 4) a' w') :
    (part (bodyOf Tryd.f8) [true, true, true, true, true, true, false, true, false, false]).wp Tryd.prog Q a w := by
  conv => arg 2; whnf
  rw [lit89 a h]
  simp only [g74, g75]
  clear h g74 g75
  go_wp2
  exact ⟨⟨rfl, rfl⟩, ⟨rfl, trivial⟩, rfl⟩
theorem hl3_eq : part (bodyOf Tryd.f8) [true, true, true, true, true, true, false, true, false] = .loop (part (bodyOf Tryd.f8) [true, true, true, true, true, true, false, true, false, false]) := by kernel_rfl
structure HL3I (a0 : Act) (w0 : World) (g z : Nat) (T : By) (x : UInt8) (i : Nat) (a : Act) (w : World) : Prop where
  frm : Frm 89 a
  same : Same [1, 7, 74] a0 a
  le : i ≤ z
  g75 : G a 75 = .int .i64 (i : Int)
  row : Row w g 5 (((T.take i).map (· + x) ++ T.drop i).map vb)
  tch : Tch [g] w0 w
theorem plus_set (T : By) (i : Nat) (x : UInt8) (hi : i < T.length) : ((T.take i).map (· + x) ++ T.drop i).set i (((T.take i).map (· + x) ++ T.drop i).getD i 0 + x) = (T.take (i + 1)).map (· + x) ++ T.drop (i + 1) := by
  have hl : ((T.take i).map (· + x)).length = i := by simp; omega
  rw [List.set_append_right _ _ (by omega), hl, Nat.sub_self, List.getD_eq_getElem?_getD, List.getElem?_append_right (by omega), hl, Nat.sub_self, List.drop_eq_getElem_cons hi, List.set_cons_zero, List.take_succ_eq_append_getElem hi, List.map_append, List.append_assoc]
  simp [hi]
theorem hl3Loop (a : Act) (w : World) (h : Frm 89 a) (Q : Exit → Act → World → Prop) (g z n cap : Nat) (q : Option Addr) (T : By) (hz : z ≤ 16) (hT : T.length = z) (hn : n ≤ 2147483647) (hR : Row w g 5 (T.map vb))
    (g1 : G a 1 = .slice q n cap) (g7 : G a 7 = .slice (some ⟨g, 0, none⟩) z z) (g74 : G a 74 = .int .i64 (z : Int)) (g75 : G a 75 = .int .i64 0)
    (hQ : ∀ a' w', HLE [7] a w g (T.map (· + UInt8.ofNat n)) a' w' → Q (.exit 4) a' w') :
    (part (bodyOf Tryd.f8) [true, true, true, true, true, true, false, true, false]).wp Tryd.prog Q a w := by
  rw [hl3_eq]
  refine wp_loop (fun a' w' => ∃ i, HL3I a w g z T (UInt8.ofNat n) i a' w') (fun a' _ => z - (intOf (G a' 75)).toNat) ⟨0, h, by simp [Same], by omega, g75, by simpa using hR, Tch.refl _ _⟩ ?_
  rintro a1 w1 ⟨i, I⟩
  by_cases hi : i < z
  · refine hl3Round a1 w1 I.frm _ g z i n cap q _ hi hz (by simp; omega) hn I.row ((I.same.get 1 rfl).trans g1) ((I.same.get 7 rfl).trans g7) ((I.same.get 74 rfl).trans g74) I.g75 ?_
    rintro a' w' ⟨p1, p2, p3, p4⟩
    simp only [Exit.then]
    have r := p4.out.1
    rw [plus_set T i _ (by omega)] at r
    refine ⟨⟨i + 1, p1, ?_, by omega, by rw [p3]; push_cast; rfl, r, I.tch.trans p4.out.2⟩, ?_⟩
    · have s := I.same
      simp only [Same] at s p2 ⊢
      simp only [p2, s, and_self]
    · rw [p3, I.g75]; simp [intOf]; omega
  · have hi' : i = z := by have := I.le; omega
    subst hi'
    refine hl3Leave a1 w1 I.frm _ i ((I.same.get 74 rfl).trans g74) I.g75 ?_
    rintro a' w' ⟨p1, p2, rfl⟩
    simp only [Exit.then]
    have r := I.row
    rw [List.take_of_length_le (Nat.le_of_eq hT), List.drop_of_length_le (Nat.le_of_eq hT), List.append_nil] at r
    refine hQ _ _ ⟨p1, ?_, r, I.tch⟩
    have s := I.same
    simp only [Same] at s p2 ⊢
    simp only [p2, s, and_self]
end Go.Proofs.YtgomodhhomekpaaDoor
