/-
  FnRounds: its loops.
-/
import Derived.Test.YtgomodhhomekpaaM6
import Derived.Test.YtgomodhhomekpaaPe
namespace Go.Proofs.Ytgomodhhomekpaa
open Go.RowKit Pu Ar
set_option maxRecDepth 100000 in
theorem lit90 (a : Act) (h : Frm 90 a) : a = ⟨#[G a 0, G a 1, G a 2, G a 3, G a 4, G a 5, G a 6, G a 7, G a 8, G a 9, G a 10, G a 11, G a 12, G a 13, G a 14, G a 15, G a 16, G a 17, G a 18, G a 19, G a 20, G a 21, G a 22, G a 23, G a 24, G a 25, G a 26, G a 27, G a 28, G a 29, G a 30, G a 31, G a 32, G a 33, G a 34, G a 35, G a 36, G a 37, G a 38, G a 39, G a 40, G a 41, G a 42, G a 43, G a 44, G a 45, G a 46, G a 47, G a 48, G a 49, G a 50, G a 51, G a 52, G a 53, G a 54, G a 55, G a 56, G a 57, G a 58, G a 59, G a 60, G a 61, G a 62, G a 63, G a 64, G a 65, G a 66, G a 67, G a 68, G a 69, G a 70, G a 71, G a 72, G a 73, G a 74, G a 75, G a 76, G a 77, G a 78, G a 79, G a 80, G a 81, G a 82, G a 83, G a 84, G a 85, G a 86, G a 87, G a 88, G a 89], []⟩ := lit_of a h
def rkKeep : List Nat := [1, 2, 3, 4, 9, 10, 11, 46, 47]
def RXP (a : Act) (w : World) (g cap i : Nat) (l : By) (a' : Act) (w' : World) : Prop :=
  Frm 90 a' ∧ Same (56 :: rkKeep) a a' ∧ G a' 57 = .int .i64 ((i : Int) + 1) ∧ Hid (OwnC w' g cap l ∧ Tch [g] w w')
set_option maxHeartbeats 1000000 in
set_option maxRecDepth 100000 in
theorem rxRound (a : Act) (w : World) (h : Frm 90 a) (Q : Exit → Act → World → Prop) (g cap Z i off tc ub uo uc : Nat) (A st : By) (x : UInt8)
    (hO : OwnC w g cap (A ++ st)) (hst : st.length = Z) (hi : i < Z) (hZ : (Z : Int) ≤ 32) (hoff : off = A.length) (hx : w.cell? ⟨ub, uo + i, none⟩ = some (vb x))
    (g10 : G a 10 = .slice (some ⟨ub, uo, none⟩) Z uc) (g11 : G a 11 = .slice (some ⟨g, off, none⟩) Z tc) (g56 : G a 56 = .int .i64 Z) (g57 : G a 57 = .int .i64 i)
    (hQ : ∀ a' w', RXP a w g cap i (A ++ st.set i (st.getD i 0 ^^^ x)) a' w' → Q .normal a' w') :
    (part (bodyOf Try.f9) [true, true, true, true, true, true, true, false, true, false, false, true, true, false, false, true, true, false, false]).wp Try.prog Q a w := by
  have hii : (i : Int) < Z := by exact_mod_cast hi
  have hlt : off + i < (A ++ st).length := by rw [List.length_append]; omega
  have hgd : (A ++ st).getD (off + i) 0 = st.getD i 0 := by
    rw [List.getD_eq_getElem?_getD, List.getD_eq_getElem?_getD, List.getElem?_append_right (by omega), hoff, Nat.add_sub_cancel_left]
  have s1 : w.cell? ⟨g, off + i, none⟩ = some (.int .u8 (ib (st.getD i 0))) := by rw [hO.get _ hlt, hgd]; rfl
  have s2 : w.cell? ⟨ub, uo + i, none⟩ = some (.int .u8 (ib x)) := hx
  have f1 := hO.free (off + i)
  have e4 := Ar.bits_xor8
  have hset : (A ++ st).set (off + i) (st.getD i 0 ^^^ x) = A ++ st.set i (st.getD i 0 ^^^ x) := by
    rw [List.set_append_right _ _ (by omega), hoff, Nat.add_sub_cancel_left]
  have HSET := Lib.hid hset
  generalize hy : st.getD i 0 = y at s1 HSET hQ
  conv => arg 2; whnf
  rw [lit90 a h]
  simp only [g10, g11, g56, g57]
  have G10 := Lib.hid g10
  have G11 := Lib.hid g11
  have G56 := Lib.hid g56
  have HO := Lib.hid hO
  clear h g10 g11 g56 g57 hO hst hx hlt hset hgd hy hi hoff
  go_wp2
  refine wp_region_quiet_tail 10 (by kernel_rfl) (by kernel_rfl) ?_
  simp only [List.take_succ_cons, List.take_zero, List.drop_succ_cons, List.drop_zero]
  repeat (go_big_quiet_step (fail))
  refine wpQuiet_nil ?_
  go_wp2
  have E10 := G10.out
  have E11 := G11.out
  have E56 := G56.out
  refine ⟨⟨rfl, rfl⟩, ⟨E56.symm, rfl, rfl, rfl, rfl, rfl, E10.symm, E11.symm, rfl, rfl, trivial⟩, rfl, ?_, (Tch.drewN w _).trans (Tch.setCell _ _ _ (by simp))⟩
  rw [← HSET.out]
  exact (HO.out.drewN _).set _ _
def RXX (a : Act) (w : World) (a' : Act) (w' : World) : Prop := Frm 90 a' ∧ Same rkKeep a a' ∧ w' = w
set_option maxRecDepth 100000 in
theorem rxLeave (a : Act) (w : World) (h : Frm 90 a) (Q : Exit → Act → World → Prop) (Z : Nat) (g56 : G a 56 = .int .i64 Z) (g57 : G a 57 = .int .i64 Z)
    (hQ : ∀ a' w', RXX a w a' w' → Q (.exit 2) a' w') :
    (part (bodyOf Try.f9) [true, true, true, true, true, true, true, false, true, false, false, true, true, false, false, true, true, false, false]).wp Try.prog Q a w := by
  conv => arg 2; whnf
  rw [lit90 a h]
  simp only [g56, g57]
  clear h g56 g57
  go_wp2
  exact ⟨⟨rfl, rfl⟩, ⟨rfl, rfl, rfl, rfl, rfl, rfl, rfl, rfl, rfl, trivial⟩, rfl⟩
theorem rxLoop_eq : part (bodyOf Try.f9) [true, true, true, true, true, true, true, false, true, false, false, true, true, false, false, true, true, false] = .loop (part (bodyOf Try.f9) [true, true, true, true, true, true, true, false, true, false, false, true, true, false, false, true, true, false, false]) := by kernel_rfl
structure RXI (a0 : Act) (w0 : World) (g cap : Nat) (A T U : By) (i : Nat) (a : Act) (w : World) : Prop where
  frm : Frm 90 a
  same : Same (56 :: rkKeep) a0 a
  le : i ≤ T.length
  g57 : G a 57 = .int .i64 (i : Int)
  row : OwnC w g cap (A ++ (xorBy (T.take i) (U.take i) ++ T.drop i))
  tch : Tch [g] w0 w
def RXE (a : Act) (w : World) (g cap : Nat) (l : By) (a' : Act) (w' : World) : Prop := Frm 90 a' ∧ Same rkKeep a a' ∧ Hid (OwnC w' g cap l ∧ Tch [g] w w')
theorem rxLoop (a : Act) (w : World) (h : Frm 90 a) (Q : Exit → Act → World → Prop) (g cap Z off tc : Nat) (A T U : By) (u : Value)
    (hO : OwnC w g cap (A ++ T)) (hT : T.length = Z) (hUl : U.length = Z) (hZ : (Z : Int) ≤ 32) (hoff : off = A.length) (hu : Rd w u U) (huo : Off [g] u)
    (g10 : G a 10 = u) (g11 : G a 11 = .slice (some ⟨g, off, none⟩) Z tc) (g56 : G a 56 = .int .i64 Z) (g57 : G a 57 = .int .i64 0)
    (hQ : ∀ a' w', RXE a w g cap (A ++ xorBy T U) a' w' → Q (.exit 2) a' w') :
    (part (bodyOf Try.f9) [true, true, true, true, true, true, true, false, true, false, false, true, true, false, false, true, true, false]).wp Try.prog Q a w := by
  rw [rxLoop_eq]
  obtain ⟨q, uc, hv, hcap, hmax, hrd⟩ := hu
  refine wp_loop (fun a' w' => ∃ i, RXI a w g cap A T U i a' w') (fun a' _ => T.length - (intOf (G a' 57)).toNat) ⟨0, h, by simp [Same, rkKeep], by omega, g57, by simpa [xorBy] using hO, Tch.refl _ _⟩ ?_
  rintro a1 w1 ⟨i, I⟩
  have hl : (xorBy (T.take i) (U.take i) ++ T.drop i).length = Z := by have := I.le; simp [xorBy]; omega
  by_cases hi : i < T.length
  · obtain ⟨ub, uo, rfl, hcell⟩ : ∃ b o, q = some ⟨b, o, none⟩ ∧ ∀ i x, U[i]? = some x → w.cell? ⟨b, o + i, none⟩ = some (vb x) := by
      rcases hrd with h | h
      · rw [h] at hUl; simp at hUl; omega
      · exact h
    have hx := I.tch.cell (hcell i (U.getD i 0) (by rw [List.getD_eq_getElem?_getD, List.getElem?_eq_getElem (by omega)]; rfl)) (huo ub (by rw [hv]; rfl))
    refine rxRound a1 w1 I.frm _ g cap Z i off tc ub uo uc A _ _ I.row hl (by omega) hZ hoff hx ((I.same.get 10 rfl).trans (g10.trans (by rw [hv, hUl]))) ((I.same.get 11 rfl).trans g11) ((I.same.get 56 rfl).trans g56) I.g57 ?_
    rintro a' w' ⟨p1, p2, p3, p4⟩
    simp only [Exit.then]
    refine ⟨⟨i + 1, p1, ?_, by omega, p3, ?_, I.tch.trans p4.out.2⟩, ?_⟩
    · have s := I.same
      simp only [Same, rkKeep] at s p2 ⊢
      simp only [p2, s, and_self]
    · have := p4.out.1
      rw [xor_set T U _ i hi (by omega) rfl] at this
      exact this
    · rw [p3, I.g57]; simp [intOf]; omega
  · have hi' : i = T.length := by have := I.le; omega
    subst hi'
    refine rxLeave a1 w1 I.frm _ Z ((I.same.get 56 rfl).trans g56) (by rw [I.g57, hT]) ?_
    rintro a' w' ⟨p1, p2, rfl⟩
    simp only [Exit.then]
    have hr := I.row
    rw [xor_all T U (by omega)] at hr
    refine hQ _ _ ⟨p1, ?_, hr, I.tch⟩
    have s := I.same
    simp only [Same, rkKeep] at s p2 ⊢
    simp only [p2, s, and_self]

/-- Where the loop of rounds stands. -/
structure RDS (wb w : World) (hk : Pu.HK) (pw salt : By) (g cap i : Nat) (vu : Value) : Prop where
  u : Rd w vu (derU hk pw salt 1 i)
  off : Off [g] vu
  row : OwnC w g cap (derF hk pw salt 1 i)
  tch : Tch [] wb w
  new : wb.heap.size ≤ g
def RDP (a : Act) (wb : World) (hk : Pu.HK) (pw salt : By) (g cap i : Nat) (a' : Act) (w' : World) : Prop :=
  Frm 90 a' ∧ Same [1, 2, 3, 4, 9, 11, 46] a a' ∧ G a' 47 = .int .i64 (i : Int) ∧ ∃ vu', G a' 10 = vu' ∧ Hid (RDS wb w' hk pw salt g cap i vu')
set_option maxHeartbeats 1000000 in
set_option maxRecDepth 100000 in
theorem rdRound (a : Act) (wb w : World) (h : Frm 90 a) (Q : Exit → Act → World → Prop) (kt : List UInt32) (k s bl : Int) (pw : ByteArray) (salt : By) (vu : Value) (c g cap i M Z : Nat)
    (hK : KIs wb kt) (S : RDS wb w (kindOf kt k s bl) pw.data.toList salt g cap i vu) (hZ : (kindOf kt k s bl).size = Z) (hpl : pw.size ≤ 2147483647) (hi : i < M) (hM : M ≤ 1000)
    (c0 : wb.cell? ⟨c, 0, none⟩ = some (.int .i64 k)) (c1 : wb.cell? ⟨c, 1, none⟩ = some (.int .i64 s)) (c2 : wb.cell? ⟨c, 2, none⟩ = some (.int .i64 bl))
    (g1 : G a 1 = .string pw) (g4 : G a 4 = .pointer (some ⟨c, 0, none⟩)) (g10 : G a 10 = vu) (g11 : G a 11 = .slice (some ⟨g, 0, none⟩) Z cap) (g46 : G a 46 = .int .i64 (M : Int)) (g47 : G a 47 = .int .i64 (i : Int))
    (hQ : ∀ a' w', RDP a wb (kindOf kt k s bl) pw.data.toList salt g cap (i + 1) a' w' → Q .normal a' w') :
    (part (bodyOf Try.f9) [true, true, true, true, true, true, true, false, true, false, false]).wp Try.prog Q a w := by
  obtain ⟨uq, uc, rfl⟩ := rd_ex S.u
  have hs1 : Z ≤ 32 := by rw [← hZ]; exact (kindOf_ok kt k s bl).size_le
  have hz0 : 1 ≤ Z := by rw [← hZ]; exact (kindOf_ok kt k s bl).size_pos
  have hii : (i : Int) < (M : Int) := by omega
  have hmm : (M : Int) ≤ 1000 := by omega
  have d0 := S.tch.cell c0 (by simp)
  have d1 := S.tch.cell c1 (by simp)
  have d2 := S.tch.cell c2 (by simp)
  have HS := Lib.hid S
  have HZ := Lib.hid hZ
  have HS1 := Lib.hid hs1
  have HK := Lib.hid (hK.tch S.tch (by simp))
  have HUL : Hid ((derU (kindOf kt k s bl) pw.data.toList salt 1 i).length = Z) := by show _ = _; rw [derU_length, hZ]
  have HPL : Hid (pw.data.toList.length ≤ 2147483647) := by show pw.data.toList.length ≤ _; rw [Array.length_toList]; exact hpl
  obtain ⟨U, cc, hcv, hU⟩ := by_of_str w pw (by omega)
  have HU := Lib.hid hU.out
  conv => arg 2; whnf
  rw [lit90 a h]
  have E1 := Lib.hid g1
  have E4 := Lib.hid g4
  have E11 := Lib.hid g11
  have E46 := Lib.hid g46
  simp only [g1, g4, g10, g11, g46, g47]
  clear h g1 g4 g10 g11 g46 g47 S hZ hK hs1 hz0 hi hM c0 c1 c2 hU hpl
  refine wp_seq_k (fun K0 k0 => ?_)
  have J0 := Lib.hid k0
  clear k0
  go_wp2
  refine J0.out _ _ ?_
  refine wp_seq_k (fun K9 k9 => ?_)
  have J9 := Lib.hid k9
  clear k9 J0
  go_wp2
  refine J9.out _ _ ?_
  refine wp_seq_k (fun K1 k1 => ?_)
  have J1 := Lib.hid k1
  clear k1 J9
  refine wp_block ?_
  refine wp_seq_k (fun K2 k2 => ?_)
  have J2 := Lib.hid k2
  clear k2
  go_wp2_with (fail)
  refine (iMac kt k s bl pw.data.toList [derU (kindOf kt k s bl) pw.data.toList salt 1 i] _ _ _ (HK.out.tch (HU.out.1.trans (Tch.alloc _ _)) (by simp)) (HU.out.2.tchNil (Tch.alloc _ _)) (by have := HPL.out; omega) (prd_one (HS.out.u.tchNil HU.out.1)) (by have := HUL.out; have := HS1.out; simp; omega)).mono ?_
  rintro e w1 ⟨v1, rfl, h1⟩
  have t1 : Tch [] w w1 := (HU.out.1.trans (Tch.alloc _ _)).trans h1.out.tchNil
  have S1 : Hid (RDS wb w1 (kindOf kt k s bl) pw.data.toList salt g cap i (.slice uq (derU (kindOf kt k s bl) pw.data.toList salt 1 i).length uc) ∧ Rd w1 v1 (derU (kindOf kt k s bl) pw.data.toList salt 1 (i + 1)) ∧ Off [g] v1) := by
    have e : mac (kindOf kt k s bl) pw.data.toList [derU (kindOf kt k s bl) pw.data.toList salt 1 i].flatten = derU (kindOf kt k s bl) pw.data.toList salt 1 (i + 1) := by simp [derU]
    have h2 := h1.out
    rw [e] at h2
    refine ⟨⟨HS.out.u.tchNil t1, HS.out.off, HS.out.row.tch t1 (by simp), HS.out.tch.trans t1, HS.out.new⟩, h2.1.rd, h2.fresh ?_⟩
    intro b hb
    rw [List.mem_singleton.1 hb]
    exact Nat.lt_of_lt_of_le HS.out.row.lt (HU.out.1.trans (Tch.alloc _ _)).size
  have HUL1 : Hid ((derU (kindOf kt k s bl) pw.data.toList salt 1 (i + 1)).length = Z) := by show _ = _; rw [derU_length, HZ.out]
  have HFL1 : Hid ((derF (kindOf kt k s bl) pw.data.toList salt 1 i).length = Z) := by show _ = _; rw [derF_length, HZ.out]
  clear h1 t1 hcv HS d0 d1 d2
  go_wp2
  refine J2.out _ _ ?_
  refine wp_seq_k (fun K3 k3 => ?_)
  have J3 := Lib.hid k3
  clear k3 J2
  go_wp2
  refine J3.out _ _ (wp_block ?_)
  have e1 := E1.out
  have e4 := E4.out
  have e11 := E11.out
  have e46 := E46.out
  refine rxLoop _ w1 ⟨rfl, rfl⟩ _ g cap Z 0 cap [] (derF (kindOf kt k s bl) pw.data.toList salt 1 i) (derU (kindOf kt k s bl) pw.data.toList salt 1 (i + 1)) v1 S1.out.1.row HFL1.out HUL1.out (by have := HS1.out; omega) rfl S1.out.2.1 S1.out.2.2 rfl rfl rfl rfl ?_
  rintro a' w' ⟨f, sm, h4⟩
  refine J1.out _ _ ?_
  have s47 : G a' 47 = .int .i64 (i : Int) := sm.get 47 rfl
  have s10 : G a' 10 = v1 := sm.get 10 rfl
  have E10' := Lib.hid s10
  have HSM : Hid (Same [1, 2, 3, 4, 9, 11, 46] a a') := ⟨(sm.get 1 rfl).trans e1.symm, sm.get 2 rfl, sm.get 3 rfl, (sm.get 4 rfl).trans e4.symm, sm.get 9 rfl, (sm.get 11 rfl).trans e11.symm, (sm.get 46 rfl).trans e46.symm, trivial⟩
  rw [lit90 a' f]
  simp only [s47]
  clear f sm s47 s10 e1 e4 e11 e46
  go_wp2
  have tg : Tch [] wb w' := tchNew S1.out.1.tch h4.out.2 (by intro b hb; rw [List.mem_singleton.1 hb]; exact S1.out.1.new)
  refine ⟨⟨rfl, rfl⟩, HSM.out, by push_cast; rfl, v1, E10'.out, ⟨S1.out.2.1.tch h4.out.2 S1.out.2.2, S1.out.2.2, ?_, tg, S1.out.1.new⟩⟩
  have := h4.out.1
  exact this
def RDX (a : Act) (w : World) (a' : Act) (w' : World) : Prop := Frm 90 a' ∧ Same [1, 2, 3, 4, 9, 11] a a' ∧ w' = w
set_option maxRecDepth 100000 in
theorem rdLeave (a : Act) (w : World) (h : Frm 90 a) (Q : Exit → Act → World → Prop) (M : Nat) (g46 : G a 46 = .int .i64 (M : Int)) (g47 : G a 47 = .int .i64 (M : Int))
    (hQ : ∀ a' w', RDX a w a' w' → Q (.exit 0) a' w') :
    (part (bodyOf Try.f9) [true, true, true, true, true, true, true, false, true, false, false]).wp Try.prog Q a w := by
  conv => arg 2; whnf
  rw [lit90 a h]
  simp only [g46, g47]
  clear h g46 g47
  go_wp2
  exact ⟨⟨rfl, rfl⟩, ⟨rfl, rfl, rfl, rfl, rfl, rfl, trivial⟩, rfl⟩
theorem rdLoop_eq : part (bodyOf Try.f9) [true, true, true, true, true, true, true, false, true, false] = .loop (part (bodyOf Try.f9) [true, true, true, true, true, true, true, false, true, false, false]) := by kernel_rfl
structure RDI (a0 : Act) (wb : World) (hk : Pu.HK) (pw salt : By) (g cap M i : Nat) (a : Act) (w : World) : Prop where
  frm : Frm 90 a
  same : Same [1, 2, 3, 4, 9, 11, 46] a0 a
  le : i ≤ M
  g47 : G a 47 = .int .i64 (i : Int)
  st : ∃ vu, G a 10 = vu ∧ Hid (RDS wb w hk pw salt g cap i vu)
def RDE (a : Act) (wb : World) (g cap : Nat) (l : By) (a' : Act) (w' : World) : Prop := Frm 90 a' ∧ Same [1, 2, 3, 4, 9, 11] a a' ∧ Hid (OwnC w' g cap l ∧ Tch [] wb w')
theorem rdLoop (a : Act) (wb w : World) (h : Frm 90 a) (Q : Exit → Act → World → Prop) (kt : List UInt32) (k s bl : Int) (pw : ByteArray) (salt : By) (vu : Value) (c g cap M Z : Nat)
    (hK : KIs wb kt) (S : RDS wb w (kindOf kt k s bl) pw.data.toList salt g cap 0 vu) (hZ : (kindOf kt k s bl).size = Z) (hpl : pw.size ≤ 2147483647) (hM : M ≤ 1000)
    (c0 : wb.cell? ⟨c, 0, none⟩ = some (.int .i64 k)) (c1 : wb.cell? ⟨c, 1, none⟩ = some (.int .i64 s)) (c2 : wb.cell? ⟨c, 2, none⟩ = some (.int .i64 bl))
    (g1 : G a 1 = .string pw) (g4 : G a 4 = .pointer (some ⟨c, 0, none⟩)) (g10 : G a 10 = vu) (g11 : G a 11 = .slice (some ⟨g, 0, none⟩) Z cap) (g46 : G a 46 = .int .i64 (M : Int)) (g47 : G a 47 = .int .i64 0)
    (hQ : ∀ a' w', RDE a wb g cap (derF (kindOf kt k s bl) pw.data.toList salt 1 M) a' w' → Q (.exit 0) a' w') :
    (part (bodyOf Try.f9) [true, true, true, true, true, true, true, false, true, false]).wp Try.prog Q a w := by
  rw [rdLoop_eq]
  refine wp_loop (fun a' w' => ∃ i, RDI a wb (kindOf kt k s bl) pw.data.toList salt g cap M i a' w') (fun a' _ => M - (intOf (G a' 47)).toNat) ⟨0, h, by simp [Same], by omega, g47, vu, g10, S⟩ ?_
  rintro a1 w1 ⟨i, I⟩
  obtain ⟨vu1, e10, X1⟩ := I.st
  by_cases hi : i < M
  · refine rdRound a1 wb w1 I.frm _ kt k s bl pw salt vu1 c g cap i M Z hK X1.out hZ hpl hi hM c0 c1 c2 ((I.same.get 1 rfl).trans g1) ((I.same.get 4 rfl).trans g4) e10 ((I.same.get 11 rfl).trans g11) ((I.same.get 46 rfl).trans g46) I.g47 ?_
    rintro a' w' ⟨p1, p2, p3, vu2, q2, q3⟩
    simp only [Exit.then]
    refine ⟨⟨i + 1, p1, ?_, by omega, p3, vu2, q2, q3⟩, ?_⟩
    · have s := I.same
      simp only [Same] at s p2 ⊢
      simp only [p2, s, and_self]
    · rw [p3, I.g47]; simp [intOf]; omega
  · have hi' : i = M := by have := I.le; omega
    subst hi'
    refine rdLeave a1 w1 I.frm _ i ((I.same.get 46 rfl).trans g46) I.g47 ?_
    rintro a' w' ⟨p1, p2, rfl⟩
    simp only [Exit.then]
    refine hQ _ _ ⟨p1, ?_, X1.out.row, X1.out.tch⟩
    have s := I.same
    simp only [Same] at s p2 ⊢
    simp only [p2, s, and_self]
end Go.Proofs.Ytgomodhhomekpaa
