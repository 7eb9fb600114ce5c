/-
  pbkdf2.Key: the loop of blocks whole; divRoundUp; Key.
-/
import Derived.Test.YtgomodhhomekpaaM6
import Derived.Test.YtgomodhhomekpaaPc
namespace Go.Proofs.Ytgomodhhomekpaa
open Go.RowKit Pu Ar
/-- The conversion of a text to bytes, and that its row is new. -/
theorem by_of_str2 (w : World) (s : ByteArray) (hs : s.size ≤ 140737488355328) :
    ∃ W c, (convert 9 24 (.string s)).run Try.prog w = .ok (.slice (some ⟨w.heap.size, 0, none⟩) s.size c) W ∧ Hid (Tch [] w W ∧ Rd W (.slice (some ⟨w.heap.size, 0, none⟩) s.size c) s.data.toList) ∧ w.heap.size < W.heap.size := by
  obtain ⟨W, c, h1, h2⟩ := by_of_str w s hs
  refine ⟨W, c, h1, h2, ?_⟩
  have hr := Lib.run_convert_string_bytes (P := Try.prog) w 9 24 5 s Try.underlying9 Try.underlying24 Try.underlying5
  rw [hr] at h1
  simp only [Result.ok.injEq] at h1
  obtain ⟨_, rfl⟩ := h1
  rw [Lib.bytesWorld_size]; omega
def PCX (a : Act) (w : World) (a' : Act) (w' : World) : Prop := Frm 126 a' ∧ Same [4, 16] a a' ∧ w' = w
set_option maxRecDepth 100000 in
theorem pcLeave (a : Act) (w : World) (h : Frm 126 a) (Q : Exit → Act → World → Prop) (B NB : Nat) (hi : NB < B) (g14 : G a 14 = .int .i64 (NB : Int)) (g18 : G a 18 = .int .i64 (B : Int))
    (hQ : ∀ a' w', PCX a w a' w' → Q (.exit 0) a' w') :
    (part (bodyOf Try.f58) [true, true, true, true, true, true, true, true, true, true, false, true, false, false]).wp Try.prog Q a w := by
  have hii : ¬ ((B : Int) ≤ (NB : Int)) := by omega
  conv => arg 2; whnf
  rw [lit126 a h]
  simp only [g14, g18]
  clear h g14 g18 hi
  go_wp2
  exact ⟨⟨rfl, rfl⟩, ⟨rfl, rfl, trivial⟩, rfl⟩
def PCP (a : Act) (wb : World) (hk : Pu.HK) (m : Nat) (pw X : By) (bb Z j : Nat) (a' : Act) (w' : World) : Prop :=
  Frm 126 a' ∧ Same [2, 3, 4, 12, 13, 14, 15] a a' ∧ G a' 18 = .int .i64 ((j + 1 : Nat) : Int) ∧ ∃ F' vo' vu' U', F'.m = m ∧ G a' 16 = vo' ∧ G a' 17 = vu' ∧ U'.length = Z ∧ Hid (PKS wb w' hk F' pw X U' vo' vu' bb)
set_option maxHeartbeats 1000000 in
set_option maxRecDepth 100000 in
theorem pcRound (a : Act) (wb w : World) (h : Frm 126 a) (Q : Exit → Act → World → Prop) (hk : Pu.HK) (F : HF) (pw salt U : By) (sv vo vu : Value) (bb Z j B N M NB : Nat)
    (S : PKS wb w hk F pw (derAll hk pw salt M j) U vo vu bb) (hU : U.length = Z) (hZ : hk.size = Z) (hs : Rd wb sv salt) (hsn : Nm sv) (hsb : ∀ b, sv.ownBlock = some b → b < wb.heap.size) (hsl : salt.length ≤ 2147483647) (hB : B = j + 1) (hj : j < NB) (hNB : NB ≤ 10000) (hN : N = j * hk.size) (hN2 : N ≤ 1000000) (hM : M ≤ 100000)
    (g2 : G a 2 = sv) (g3 : G a 3 = .int .i64 ((M : Int) + 1)) (g12 : G a 12 = .pointer (some ⟨F.m, 0, none⟩)) (g13 : G a 13 = .int .i64 (Z : Int)) (g14 : G a 14 = .int .i64 (NB : Int)) (g15 : G a 15 = .pointer (some ⟨bb, 0, none⟩)) (g16 : G a 16 = vo) (g17 : G a 17 = vu) (g18 : G a 18 = .int .i64 (B : Int))
    (hQ : ∀ a' w', PCP a wb hk F.m pw (derAll hk pw salt M (j + 1)) bb Z (j + 1) a' w' → Q .normal a' w') :
    (part (bodyOf Try.f58) [true, true, true, true, true, true, true, true, true, true, false, true, false, false]).wp Try.prog Q a w := by
  have hii : (B : Int) ≤ (NB : Int) := by omega
  have hmm : (NB : Int) ≤ 10000 := by omega
  have HS := Lib.hid S
  have HU := Lib.hid hU
  have HZ := Lib.hid hZ
  have HSA := Lib.hid hs
  have HSN := Lib.hid hsn
  have HSB := Lib.hid hsb
  have HSL := Lib.hid hsl
  have HB := Lib.hid hB
  have HJ : Hid (j ≤ 10000) := by show _ ≤ _; omega
  have HN := Lib.hid hN
  have HN2 := Lib.hid hN2
  have HMB := Lib.hid hM
  conv => arg 2; whnf
  rw [lit126 a h]
  have E2 := Lib.hid g2
  have E3 := Lib.hid g3
  have E12 := Lib.hid g12
  have E13 := Lib.hid g13
  have E14 := Lib.hid g14
  have E15 := Lib.hid g15
  simp only [g2, g3, g12, g13, g14, g15, g16, g17, g18]
  clear h g2 g3 g12 g13 g14 g15 g16 g17 g18 S hU hZ hs hsn hsb hsl hB hj hNB hN hN2 hM
  refine wp_seq_k (fun K0 k0 => ?_)
  have J0 := Lib.hid k0
  clear k0
  go_wp2
  refine J0.out _ _ (wp_seq_k (fun K1 k1 => ?_))
  have J1 := Lib.hid k1
  clear k1 J0
  refine wp_block ?_
  have e2 := E2.out
  have e3 := E3.out
  have e12 := E12.out
  have e13 := E13.out
  have e14 := E14.out
  have e15 := E15.out
  refine pcBody _ wb w ⟨rfl, rfl⟩ _ hk F pw salt U sv vo vu bb Z j B N M HS.out HU.out HZ.out HSA.out HSN.out HSB.out HSL.out HB.out HJ.out HN.out HN2.out HMB.out rfl rfl rfl rfl rfl rfl rfl rfl ?_
  rintro a' w' ⟨f, s, F', vo', vu', U', hm', g16', g17', hU', h4⟩
  refine J1.out _ _ ?_
  have s18 : G a' 18 = .int .i64 (B : Int) := s.get 18 rfl
  have HSM : Hid (Same [2, 3, 4, 12, 13, 14, 15] a a') := ⟨(s.get 2 rfl).trans e2.symm, (s.get 3 rfl).trans e3.symm, s.get 4 rfl, (s.get 12 rfl).trans e12.symm, (s.get 13 rfl).trans e13.symm, (s.get 14 rfl).trans e14.symm, (s.get 15 rfl).trans e15.symm, trivial⟩
  rw [lit126 a' f]
  have E16' := Lib.hid g16'
  have E17' := Lib.hid g17'
  simp only [s18]
  clear f s s18 g16' g17' e2 e3 e12 e13 e14 e15
  go_wp2
  exact ⟨⟨rfl, rfl⟩, HSM.out, by rw [HB.out]; push_cast; rfl, F', vo', vu', U', hm', E16'.out, E17'.out, hU', h4⟩
theorem pcLoop_eq : part (bodyOf Try.f58) [true, true, true, true, true, true, true, true, true, true, false, true, false] = .loop (part (bodyOf Try.f58) [true, true, true, true, true, true, true, true, true, true, false, true, false, false]) := by kernel_rfl
theorem pcLoop_same : part (bodyOf Try.f59) [true, true, true, true, true, true, true, true, true, true, false, true, false] = part (bodyOf Try.f58) [true, true, true, true, true, true, true, true, true, true, false, true, false] := by kernel_rfl
structure PCI (a0 : Act) (wb : World) (hk : Pu.HK) (m : Nat) (pw salt : By) (bb Z M NB j : Nat) (a : Act) (w : World) : Prop where
  frm : Frm 126 a
  same : Same [2, 3, 4, 12, 13, 14, 15] a0 a
  le : j ≤ NB
  g18 : G a 18 = .int .i64 ((j + 1 : Nat) : Int)
  st : ∃ F vo vu U, F.m = m ∧ G a 16 = vo ∧ G a 17 = vu ∧ U.length = Z ∧ Hid (PKS wb w hk F pw (derAll hk pw salt M j) U vo vu bb)
def PCE (a : Act) (wb : World) (l : By) (a' : Act) (w' : World) : Prop := Frm 126 a' ∧ Same [4] a a' ∧ ∃ vo, G a' 16 = vo ∧ Hid (Own w' vo l ∧ Tch [] wb w')
theorem pcLoop (a : Act) (wb w : World) (h : Frm 126 a) (Q : Exit → Act → World → Prop) (hk : Pu.HK) (F : HF) (pw salt U : By) (sv vo vu : Value) (bb Z M NB : Nat)
    (S : PKS wb w hk F pw [] U vo vu bb) (hU : U.length = Z) (hZ : hk.size = Z) (hs : Rd wb sv salt) (hsn : Nm sv) (hsb : ∀ b, sv.ownBlock = some b → b < wb.heap.size) (hsl : salt.length ≤ 2147483647) (hNB : NB ≤ 10000) (hM : M ≤ 100000)
    (g2 : G a 2 = sv) (g3 : G a 3 = .int .i64 ((M : Int) + 1)) (g12 : G a 12 = .pointer (some ⟨F.m, 0, none⟩)) (g13 : G a 13 = .int .i64 (Z : Int)) (g14 : G a 14 = .int .i64 (NB : Int)) (g15 : G a 15 = .pointer (some ⟨bb, 0, none⟩)) (g16 : G a 16 = vo) (g17 : G a 17 = vu) (g18 : G a 18 = .int .i64 1)
    (hQ : ∀ a' w', PCE a wb (derAll hk pw salt M NB) a' w' → Q (.exit 0) a' w') :
    (part (bodyOf Try.f58) [true, true, true, true, true, true, true, true, true, true, false, true, false]).wp Try.prog Q a w := by
  rw [pcLoop_eq]
  have hs2 : hk.size ≤ 32 := by obtain ⟨_, hl0⟩ := S.km; exact hl0.ok.size_le
  refine wp_loop (fun a' w' => ∃ j, PCI a wb hk F.m pw salt bb Z M NB j a' w') (fun a' _ => NB + 1 - (intOf (G a' 18)).toNat) ⟨0, h, by simp [Same], by omega, g18, F, vo, vu, U, rfl, g16, g17, hU, S⟩ ?_
  rintro a1 w1 ⟨j, I⟩
  obtain ⟨F1, vo1, vu1, U1, hm, e16, e17, hU1, X1⟩ := I.st
  by_cases hj : j < NB
  · have hN2 : j * hk.size ≤ 1000000 := by
      have := Nat.mul_le_mul (show j ≤ 10000 by omega) hs2
      omega
    refine pcRound a1 wb w1 I.frm _ hk F1 pw salt U1 sv vo1 vu1 bb Z j (j + 1) _ M NB X1.out hU1 hZ hs hsn hsb hsl rfl hj hNB rfl hN2 hM ((I.same.get 2 rfl).trans g2) ((I.same.get 3 rfl).trans g3) (by rw [hm]; exact (I.same.get 12 rfl).trans g12) ((I.same.get 13 rfl).trans g13) ((I.same.get 14 rfl).trans g14) ((I.same.get 15 rfl).trans g15) e16 e17 I.g18 ?_
    rintro a' w' ⟨p1, p2, p3, F2, vo2, vu2, U2, q1, q2, q3, q4, q5⟩
    simp only [Exit.then]
    refine ⟨⟨j + 1, p1, ?_, by omega, p3, F2, vo2, vu2, U2, q1.trans hm, q2, q3, q4, q5⟩, ?_⟩
    · have s := I.same
      simp only [Same] at s p2 ⊢
      simp only [p2, s, and_self]
    · rw [p3, I.g18]; simp [intOf]; omega
  · have hj' : j = NB := by have := I.le; omega
    subst hj'
    refine pcLeave a1 w1 I.frm _ (j + 1) j (by omega) ((I.same.get 14 rfl).trans g14) I.g18 ?_
    rintro a' w' ⟨p1, p2, rfl⟩
    simp only [Exit.then]
    exact hQ _ _ ⟨p1, ⟨(p2.get 4 rfl).trans (I.same.get 4 rfl), trivial⟩, vo1, (p2.get 16 rfl).trans e16, X1.out.out, X1.out.tch⟩
theorem divUp_nat (K Z : Nat) (hZ : 1 ≤ Z) : ((K : Int) + (Z : Int) - 1).tdiv (Z : Int) = (((K + Z - 1) / Z : Nat) : Int) := by
  rw [show (K : Int) + (Z : Int) - 1 = ((K + Z - 1 : Nat) : Int) by omega, Int.natCast_ediv]
  exact Int.tdiv_eq_ediv_of_nonneg (by omega)
set_option maxRecDepth 100000 in
/-- divRoundUp. -/
theorem divUp (K Z : Nat) (hZ : 1 ≤ Z) (hb : K + Z ≤ 4611686018427387904) (w : World) : Calls Try.prog 71 #[.int .i64 (K : Int), .int .i64 (Z : Int)] w fun e w' => e = .returned (.int .i64 (((K + Z - 1) / Z : Nat) : Int)) ∧ w = w' := by
  have h1 := divUp_nat K Z hZ
  have h2 : (K + Z - 1) / Z ≤ K + Z - 1 := Nat.div_le_self _ _
  obtain ⟨q, hq⟩ : ∃ q, q = (K + Z - 1) / Z := ⟨_, rfl⟩
  rw [← hq] at h1 h2 ⊢
  have b1 : (q : Int) ≤ 4611686018427387904 := by omega
  have b2 : (K : Int) + Z ≤ 4611686018427387904 := by omega
  have b3 : (1 : Int) ≤ Z := by omega
  have z4 : (((Z : Int)) == 0) = false := by
    have : ¬ ((Z : Int) = 0) := by omega
    simpa using this
  clear h2 hq hZ hb
  go_enter Try.func71, Try.ntmps71
  go_wp2
  go_ret
  exact ⟨rfl, rfl⟩
/-- What Key hands back where there is no error. -/
def PKE (w : World) (l : By) (e : Ending) (w' : World) : Prop := ∃ v', e = .returned (.tuple #[v', .nilIface]) ∧ Hid (Rd w' v' l ∧ Nm v' ∧ Tch [] w w')
set_option maxHeartbeats 1000000 in
set_option maxRecDepth 100000 in
/-- pbkdf2.Key. -/
theorem pKeyD (kt : List UInt32) (ps : ByteArray) (salt : By) (M K : Nat) (sv : Value) (w : World) (hK : KIs w kt) (hs : Rd w sv salt) (hsn : Nm sv) (hsb : ∀ b, sv.ownBlock = some b → b < w.heap.size) (hsl : salt.length ≤ 2147483647) (hpl : ps.size ≤ 2147483647) (hK1 : 1 ≤ K) (hK2 : K ≤ 10000) (hM : M ≤ 100000) :
    Calls Try.prog 58 #[(.func (.func 49) #[] #[]), .string ps, sv, .int .i64 ((M : Int) + 1), .int .i64 (K : Int)] w (PKE w (derive (Pu.HK.sha kt) ps.data.toList salt M K)) := by
  obtain ⟨Z, hZ⟩ : ∃ Z, Z = Pu.HK.size (Pu.HK.sha kt) := ⟨_, rfl⟩
  have hz1 : 1 ≤ Z := by rw [hZ]; exact Pu.HK.ok.size_pos (show Pu.HK.ok (.sha kt) from trivial)
  have hz2 : Z ≤ 32 := by rw [hZ]; exact Pu.HK.ok.size_le (show Pu.HK.ok (.sha kt) from trivial)
  obtain ⟨NB, hNB⟩ : ∃ NB, NB = (K + Z - 1) / Z := ⟨_, rfl⟩
  have hNB1 : NB ≤ 10000 := by
    rw [hNB]
    have : (K + Z - 1) / Z ≤ K := by
      rw [Nat.div_le_iff_le_mul_add_pred hz1]
      have := Nat.mul_le_mul_right K hz1
      omega
    omega
  have hKC : K ≤ NB * Z := by rw [hNB]; exact up_le K Z hz1
  obtain ⟨C, hC⟩ : ∃ C, C = NB * Z := ⟨_, rfl⟩
  have hC2 : C ≤ 400000 := by
    rw [hC]
    have := Nat.mul_le_mul hNB1 hz2
    omega
  have hmul : (NB : Int) * (Z : Int) = (C : Int) := by rw [hC]; push_cast; rfl
  have ik1 : ¬ ((K : Int) ≤ 0) := by omega
  have ik2 : (K : Int) ≤ 10000 := by omega
  have iz1 : (1 : Int) ≤ Z := by omega
  have iz2 : (Z : Int) ≤ 32 := by omega
  have inb : (NB : Int) ≤ 10000 := by omega
  have inb2 : ¬ ((4294967295 : Int) < NB) := by omega
  have ic : (C : Int) ≤ 400000 := by omega
  have iov : ¬ ((K : Int) + Z < K) := by omega
  have HDV : Hid (∀ w, Calls Try.prog 71 #[.int .i64 (K : Int), .int .i64 (Z : Int)] w fun e w' => e = .returned (.int .i64 (NB : Int)) ∧ w = w') := by
    intro w; rw [hNB]; exact divUp K Z hz1 (by omega) w
  have KL : Hid (0 < w.heap.size) := hK.lt
  have HZ := Lib.hid hZ
  have HNB := Lib.hid hNB
  have HNB1 := Lib.hid hNB1
  have HKC := Lib.hid hKC
  have HC := Lib.hid hC
  have HZ1 := Lib.hid hz1
  have HZ2 := Lib.hid hz2
  have HC2 := Lib.hid hC2
  have HK := Lib.hid hK
  have HS := Lib.hid hs
  have HSN := Lib.hid hsn
  have HSB := Lib.hid hsb
  have HSL := Lib.hid hsl
  have HM := Lib.hid hM
  have HPL : Hid (ps.data.toList.length ≤ 2147483647) := by show ps.data.toList.length ≤ _; rw [Array.length_toList]; exact hpl
  obtain ⟨W0, c0, hcv, hW0, hZ0⟩ := by_of_str2 w ps (by omega)
  clear hZ hz1 hz2 hNB hNB1 hKC hC hC2 hK hs hsn hsb hsl hK1 hK2 hM hpl
  go_enter Try.func58, Try.ntmps58
  refine wp_seq_k (fun K0 k0 => ?_)
  have J0 := Lib.hid k0
  clear k0
  go_wp2
  refine J0.out _ _ (wp_seq_k (fun K1 k1 => ?_))
  have J1 := Lib.hid k1
  clear k1 J0
  go_wp2
  refine J1.out _ _ (wp_seq_k (fun K2 k2 => ?_))
  have J2 := Lib.hid k2
  clear k2 J1
  go_wp2_with (fail)
  refine (hmNewD kt ps.data.toList _ W0 (HK.out.tch hW0.out.1 (by simp)) hW0.out.2 (.inr ⟨_, _, _, _, rfl⟩) (by
    intro b hb
    simp only [Value.ownBlock, Option.some.injEq] at hb
    subst hb
    exact hZ0) (by have := HPL.out; omega)).mono ?_
  intro e W1 hn0
  obtain ⟨F, rfl, h1⟩ := kmNew hn0
  clear hn0
  have M1 : Hid (KM W1 (Pu.HK.sha kt) F ps.data.toList []) := h1.out.1
  have T1 : Hid (Tch [] w W1) := hW0.out.1.trans h1.out.2.1
  have N1 : Hid (NewF w F) := NewF.earlier h1.out.2.2 hW0.out.1.size
  clear h1 hcv hW0 hZ0
  go_wp2
  refine J2.out _ _ (wp_seq_k (fun K3 k3 => ?_))
  have J3 := Lib.hid k3
  clear k3 J2
  go_wp2_with (fail)
  refine (kmMark (Pu.HK.sha kt) F ps.data.toList [] W1 M1.out).mono ?_
  rintro e W2 ⟨rfl, h2⟩
  obtain ⟨F2, hF2⟩ : ∃ F2, F2 = { F with kdf := true } := ⟨_, rfl⟩
  have M2 : Hid (KM W2 (Pu.HK.sha kt) F2 ps.data.toList []) := by rw [hF2]; exact h2.out.1
  have B1 := N1.out.blk M1.out
  have T2 : Hid (Tch [] w W2) := tchNew T1.out h2.out.2 (by intro b hb; rw [List.mem_singleton.1 hb]; exact B1.1)
  have N2 : Hid (NewF w F2) := by rw [hF2]; exact N1.out
  have em : F.m = F2.m := by rw [hF2]
  rw [em]
  clear h2 B1 hF2 em N1 M1 T1
  go_wp2
  refine J3.out _ _ (wp_seq_k (fun K4 k4 => ?_))
  have J4 := Lib.hid k4
  clear k4 J3
  go_wp2_with (fail)
  refine (kmSize (Pu.HK.sha kt) F2 ps.data.toList [] W2 M2.out).mono ?_
  rintro e W2' ⟨rfl, rfl⟩
  rw [← HZ.out]
  go_wp2
  refine J4.out _ _ (wp_seq_k (fun K5 k5 => ?_))
  have J5 := Lib.hid k5
  clear k5 J4
  go_wp2_with (fail)
  refine (HDV.out W2).mono ?_
  rintro e W2' ⟨rfl, rfl⟩
  go_wp2
  refine J5.out _ _ (wp_seq_k (fun K6 k6 => ?_))
  have J6 := Lib.hid k6
  clear k6 J5
  go_wp2
  refine J6.out _ _ (wp_seq_k (fun K7 k7 => ?_))
  have J7 := Lib.hid k7
  clear k7 J6
  go_wp2
  generalize hW3 : World.alloc _ _ = W3
  have R3 : Hid (Row W3 W2.heap.size 110 ([0, 0, 0, 0].map vb)) := by rw [← hW3]; exact Row.new W2 110 _
  have T3 : Hid (Tch [] W2 W3) := by rw [← hW3]; exact Tch.alloc _ _
  have Z3 : Hid (W3.heap.size = W2.heap.size + 1) := by rw [← hW3]; show (W2.alloc _).heap.size = _; rw [World.size_alloc]
  clear hW3
  refine J7.out _ _ (wp_seq_k (fun K8 k8 => ?_))
  have J8 := Lib.hid k8
  clear k8 J7
  obtain ⟨W4, hW4⟩ : ∃ W4, W4 = W3.alloc (.cells (List.replicate C (Value.int .u8 0)).toArray 5) := ⟨_, rfl⟩
  have hmk : (Instr.makeSlice 24 (.int .i64 0) (.int .i64 (C : Int))).run Try.prog W3 = .ok (.slice (some ⟨W3.heap.size, 0, none⟩) 0 C) W4 := by
    rw [hW4]; exact run_make_by 0 C (Nat.zero_le _) (by omega) W3
  have O4 : Hid (OwnC W4 W3.heap.size C []) := by rw [hW4]; exact OwnC.new W3 C (by unfold maxLen; omega)
  have T4 : Hid (Tch [] W3 W4) := by rw [hW4]; exact Tch.alloc _ _
  have Z4 : Hid (W4.heap.size = W3.heap.size + 1) := by rw [hW4]; show (W3.alloc _).heap.size = _; rw [World.size_alloc]
  clear hW4
  go_wp2
  refine J8.out _ _ (wp_seq_k (fun K9 k9 => ?_))
  have J9 := Lib.hid k9
  clear k9 J8
  clear hmk
  obtain ⟨W5, hW5⟩ : ∃ W5, W5 = W4.alloc (.cells (List.replicate Z (Value.int .u8 0)).toArray 5) := ⟨_, rfl⟩
  have hmk : (Instr.makeSlice 24 (.int .i64 (Z : Int)) (.int .i64 (Z : Int))).run Try.prog W4 = .ok (.slice (some ⟨W4.heap.size, 0, none⟩) Z Z) W5 := by
    rw [hW5]; exact run_make_by Z Z (Nat.le_refl _) (by omega) W4
  have O5 : Hid (OwnC W5 W4.heap.size Z (List.replicate Z 0)) := by
    rw [hW5]; exact ⟨by simp, by unfold maxLen; omega, _, Row.new W4 5 _, by simp, by simp [vb, ib]⟩
  have T5 : Hid (Tch [] W4 W5) := by rw [hW5]; exact Tch.alloc _ _
  clear hW5
  go_wp2
  refine J9.out _ _ (wp_seq_k (fun K10 k10 => ?_))
  have J10 := Lib.hid k10
  clear k10 J9
  clear hmk
  have X : Hid (PKS w W5 (Pu.HK.sha kt) F2 ps.data.toList [] (List.replicate Z 0) (.slice (some ⟨W3.heap.size, 0, none⟩) 0 C) (.slice (some ⟨W4.heap.size, 0, none⟩) Z Z) W2.heap.size) := by
    have k3 := T3.out.trans (T4.out.trans T5.out)
    have z3 := Z3.out
    have z4 := Z4.out
    have t2 := T2.out.size
    have lt := M2.out.lt
    refine ⟨⟨[], M2.out.tchNil k3⟩, (O4.out.tch T5.out (by simp)).own, by have := O5.out.own; rwa [List.length_replicate] at this, ?_, ?_, ?_, N2.out, ?_, ?_, T2.out.trans k3, ⟨[0, 0, 0, 0], rfl, R3.out.tch (T4.out.trans T5.out) (by simp)⟩, ?_, ?_, ?_, t2⟩
    · intro b hb hm; simp only [Value.ownBlock, Option.some.injEq] at hb; have := lt b hm; omega
    · intro b hb hm; simp only [Value.ownBlock, Option.some.injEq] at hb; have := lt b hm; omega
    · intro b hb e; simp only [Value.ownBlock, Option.some.injEq] at hb e; omega
    · intro b hb; simp only [Value.ownBlock, Option.some.injEq] at hb; omega
    · intro b hb; simp only [Value.ownBlock, Option.some.injEq] at hb; omega
    · intro hm; have := lt _ hm; omega
    · intro e; simp only [Value.ownBlock, Option.some.injEq] at e; omega
    · intro e; simp only [Value.ownBlock, Option.some.injEq] at e; omega
  clear R3 O4 O5 T3 T4 T5 Z3 Z4 T2 M2 N2 HDV
  refine wp_seq_k (fun K11 k11 => ?_)
  have J11 := Lib.hid k11
  clear k11
  go_wp2
  refine J11.out _ _ (wp_block ?_)
  refine pcLoop _ w W5 ⟨rfl, rfl⟩ _ (Pu.HK.sha kt) F2 ps.data.toList salt _ sv _ _ _ Z M NB X.out (by simp) HZ.out.symm HS.out HSN.out HSB.out HSL.out HNB1.out HM.out rfl rfl rfl rfl rfl rfl rfl rfl rfl ?_
  rintro a' w' ⟨f, sm, vo, g16, h3⟩
  refine J10.out _ _ ?_
  have g4 : G a' 4 = .int .i64 (K : Int) := sm.get 4 rfl
  have hol : (derAll (Pu.HK.sha kt) ps.data.toList salt M NB).length = C := by rw [derAll_length, ← HZ.out, HC.out]
  obtain ⟨p, c, rfl⟩ := own_ex h3.out.1
  rw [hol] at h3 g16
  have hcc : C ≤ c := by
    obtain ⟨_, _, e, h, _⟩ := h3.out.1.rd
    simp only [Value.slice.injEq] at e
    obtain ⟨_, e2, rfl⟩ := e
    omega
  have hsl : ∀ w, (Instr.slice 24 (.slice p C c) none (some (.int .i64 (K : Int))) none).run Try.prog w = .ok (.slice p K c) w := fun w => run_upto w _ C c K p rfl h3.out.1.nm (by have := HKC.out; have := HC.out; omega)
  have HOL := Lib.hid hol
  rw [lit126 a' f]
  simp only [g4, g16]
  clear f sm g4 g16 hcc hol
  go_wp2
  go_ret2
  refine ⟨_, rfl, ?_, ?_, h3.out.2⟩
  · have r := h3.out.1.rd
    have hk2 : K ≤ (derAll (Pu.HK.sha kt) ps.data.toList salt M NB).length := by rw [HOL.out, HC.out]; exact HKC.out
    rw [← HOL.out] at r
    have := r.take K hk2
    unfold derive
    rw [← HZ.out, ← HNB.out]
    exact this
  · rcases h3.out.1.nm with e | ⟨b, o, n', c', e⟩
    · simp only [Value.slice.injEq] at e
      have := HKC.out
      have := HC.out
      obtain ⟨_, e2, _⟩ := e
      omega
    · simp only [Value.slice.injEq] at e
      obtain ⟨rfl, _, _⟩ := e
      exact .inr ⟨_, _, _, _, rfl⟩
set_option maxHeartbeats 1000000 in
set_option maxRecDepth 100000 in
/-- pbkdf2.Key. -/
theorem pKeyO (kt : List UInt32) (k s bl : Int) (ps : ByteArray) (salt : By) (M K : Nat) (sv : Value) (w : World) (hK : KIs w kt) (hs : Rd w sv salt) (hsn : Nm sv) (hsb : ∀ b, sv.ownBlock = some b → b < w.heap.size) (hsl : salt.length ≤ 2147483647) (hpl : ps.size ≤ 2147483647) (hK1 : 1 ≤ K) (hK2 : K ≤ 10000) (hM : M ≤ 100000) :
    Calls Try.prog 59 #[(.func (.func 51) #[.agg #[.int .i64 k, .int .i64 s, .int .i64 bl]] #[]), .string ps, sv, .int .i64 ((M : Int) + 1), .int .i64 (K : Int)] w (PKE w (derive (Pu.HK.own (szOf s bl) (blOf s bl)) ps.data.toList salt M K)) := by
  obtain ⟨Z, hZ⟩ : ∃ Z, Z = Pu.HK.size (Pu.HK.own (szOf s bl) (blOf s bl)) := ⟨_, rfl⟩
  have hz1 : 1 ≤ Z := by rw [hZ]; exact Pu.HK.ok.size_pos (own_ok s bl)
  have hz2 : Z ≤ 32 := by rw [hZ]; exact Pu.HK.ok.size_le (own_ok s bl)
  obtain ⟨NB, hNB⟩ : ∃ NB, NB = (K + Z - 1) / Z := ⟨_, rfl⟩
  have hNB1 : NB ≤ 10000 := by
    rw [hNB]
    have : (K + Z - 1) / Z ≤ K := by
      rw [Nat.div_le_iff_le_mul_add_pred hz1]
      have := Nat.mul_le_mul_right K hz1
      omega
    omega
  have hKC : K ≤ NB * Z := by rw [hNB]; exact up_le K Z hz1
  obtain ⟨C, hC⟩ : ∃ C, C = NB * Z := ⟨_, rfl⟩
  have hC2 : C ≤ 400000 := by
    rw [hC]
    have := Nat.mul_le_mul hNB1 hz2
    omega
  have hmul : (NB : Int) * (Z : Int) = (C : Int) := by rw [hC]; push_cast; rfl
  have ik1 : ¬ ((K : Int) ≤ 0) := by omega
  have ik2 : (K : Int) ≤ 10000 := by omega
  have iz1 : (1 : Int) ≤ Z := by omega
  have iz2 : (Z : Int) ≤ 32 := by omega
  have inb : (NB : Int) ≤ 10000 := by omega
  have inb2 : ¬ ((4294967295 : Int) < NB) := by omega
  have ic : (C : Int) ≤ 400000 := by omega
  have iov : ¬ ((K : Int) + Z < K) := by omega
  have HDV : Hid (∀ w, Calls Try.prog 71 #[.int .i64 (K : Int), .int .i64 (Z : Int)] w fun e w' => e = .returned (.int .i64 (NB : Int)) ∧ w = w') := by
    intro w; rw [hNB]; exact divUp K Z hz1 (by omega) w
  have KL : Hid (0 < w.heap.size) := hK.lt
  have HZ := Lib.hid hZ
  have HNB := Lib.hid hNB
  have HNB1 := Lib.hid hNB1
  have HKC := Lib.hid hKC
  have HC := Lib.hid hC
  have HZ1 := Lib.hid hz1
  have HZ2 := Lib.hid hz2
  have HC2 := Lib.hid hC2
  have HK := Lib.hid hK
  have HS := Lib.hid hs
  have HSN := Lib.hid hsn
  have HSB := Lib.hid hsb
  have HSL := Lib.hid hsl
  have HM := Lib.hid hM
  have HPL : Hid (ps.data.toList.length ≤ 2147483647) := by show ps.data.toList.length ≤ _; rw [Array.length_toList]; exact hpl
  obtain ⟨W0, c0, hcv, hW0, hZ0⟩ := by_of_str2 w ps (by omega)
  clear hZ hz1 hz2 hNB hNB1 hKC hC hC2 hK hs hsn hsb hsl hK1 hK2 hM hpl
  go_enter Try.func59, Try.ntmps59
  refine wp_seq_k (fun K0 k0 => ?_)
  have J0 := Lib.hid k0
  clear k0
  go_wp2
  refine J0.out _ _ (wp_seq_k (fun K1 k1 => ?_))
  have J1 := Lib.hid k1
  clear k1 J0
  go_wp2
  refine J1.out _ _ (wp_seq_k (fun K2 k2 => ?_))
  have J2 := Lib.hid k2
  clear k2 J1
  go_wp2_with (fail)
  refine (hmNewO k s bl ps.data.toList _ W0 (HK.out.tch hW0.out.1 (by simp)).lt hW0.out.2 (.inr ⟨_, _, _, _, rfl⟩) (by
    intro b hb
    simp only [Value.ownBlock, Option.some.injEq] at hb
    subst hb
    exact hZ0) (by have := HPL.out; omega)).mono ?_
  intro e W1 hn0
  obtain ⟨F, rfl, h1⟩ := kmNew hn0
  clear hn0
  have M1 : Hid (KM W1 (Pu.HK.own (szOf s bl) (blOf s bl)) F ps.data.toList []) := h1.out.1
  have T1 : Hid (Tch [] w W1) := hW0.out.1.trans h1.out.2.1
  have N1 : Hid (NewF w F) := NewF.earlier h1.out.2.2 hW0.out.1.size
  clear h1 hcv hW0 hZ0
  go_wp2
  refine J2.out _ _ (wp_seq_k (fun K3 k3 => ?_))
  have J3 := Lib.hid k3
  clear k3 J2
  go_wp2_with (fail)
  refine (kmMark (Pu.HK.own (szOf s bl) (blOf s bl)) F ps.data.toList [] W1 M1.out).mono ?_
  rintro e W2 ⟨rfl, h2⟩
  obtain ⟨F2, hF2⟩ : ∃ F2, F2 = { F with kdf := true } := ⟨_, rfl⟩
  have M2 : Hid (KM W2 (Pu.HK.own (szOf s bl) (blOf s bl)) F2 ps.data.toList []) := by rw [hF2]; exact h2.out.1
  have B1 := N1.out.blk M1.out
  have T2 : Hid (Tch [] w W2) := tchNew T1.out h2.out.2 (by intro b hb; rw [List.mem_singleton.1 hb]; exact B1.1)
  have N2 : Hid (NewF w F2) := by rw [hF2]; exact N1.out
  have em : F.m = F2.m := by rw [hF2]
  rw [em]
  clear h2 B1 hF2 em N1 M1 T1
  go_wp2
  refine J3.out _ _ (wp_seq_k (fun K4 k4 => ?_))
  have J4 := Lib.hid k4
  clear k4 J3
  go_wp2_with (fail)
  refine (kmSize (Pu.HK.own (szOf s bl) (blOf s bl)) F2 ps.data.toList [] W2 M2.out).mono ?_
  rintro e W2' ⟨rfl, rfl⟩
  rw [← HZ.out]
  go_wp2
  refine J4.out _ _ (wp_seq_k (fun K5 k5 => ?_))
  have J5 := Lib.hid k5
  clear k5 J4
  go_wp2_with (fail)
  refine (HDV.out W2).mono ?_
  rintro e W2' ⟨rfl, rfl⟩
  go_wp2
  refine J5.out _ _ (wp_seq_k (fun K6 k6 => ?_))
  have J6 := Lib.hid k6
  clear k6 J5
  go_wp2
  refine J6.out _ _ (wp_seq_k (fun K7 k7 => ?_))
  have J7 := Lib.hid k7
  clear k7 J6
  go_wp2
  generalize hW3 : World.alloc _ _ = W3
  have R3 : Hid (Row W3 W2.heap.size 110 ([0, 0, 0, 0].map vb)) := by rw [← hW3]; exact Row.new W2 110 _
  have T3 : Hid (Tch [] W2 W3) := by rw [← hW3]; exact Tch.alloc _ _
  have Z3 : Hid (W3.heap.size = W2.heap.size + 1) := by rw [← hW3]; show (W2.alloc _).heap.size = _; rw [World.size_alloc]
  clear hW3
  refine J7.out _ _ (wp_seq_k (fun K8 k8 => ?_))
  have J8 := Lib.hid k8
  clear k8 J7
  obtain ⟨W4, hW4⟩ : ∃ W4, W4 = W3.alloc (.cells (List.replicate C (Value.int .u8 0)).toArray 5) := ⟨_, rfl⟩
  have hmk : (Instr.makeSlice 24 (.int .i64 0) (.int .i64 (C : Int))).run Try.prog W3 = .ok (.slice (some ⟨W3.heap.size, 0, none⟩) 0 C) W4 := by
    rw [hW4]; exact run_make_by 0 C (Nat.zero_le _) (by omega) W3
  have O4 : Hid (OwnC W4 W3.heap.size C []) := by rw [hW4]; exact OwnC.new W3 C (by unfold maxLen; omega)
  have T4 : Hid (Tch [] W3 W4) := by rw [hW4]; exact Tch.alloc _ _
  have Z4 : Hid (W4.heap.size = W3.heap.size + 1) := by rw [hW4]; show (W3.alloc _).heap.size = _; rw [World.size_alloc]
  clear hW4
  go_wp2
  refine J8.out _ _ (wp_seq_k (fun K9 k9 => ?_))
  have J9 := Lib.hid k9
  clear k9 J8
  clear hmk
  obtain ⟨W5, hW5⟩ : ∃ W5, W5 = W4.alloc (.cells (List.replicate Z (Value.int .u8 0)).toArray 5) := ⟨_, rfl⟩
  have hmk : (Instr.makeSlice 24 (.int .i64 (Z : Int)) (.int .i64 (Z : Int))).run Try.prog W4 = .ok (.slice (some ⟨W4.heap.size, 0, none⟩) Z Z) W5 := by
    rw [hW5]; exact run_make_by Z Z (Nat.le_refl _) (by omega) W4
  have O5 : Hid (OwnC W5 W4.heap.size Z (List.replicate Z 0)) := by
    rw [hW5]; exact ⟨by simp, by unfold maxLen; omega, _, Row.new W4 5 _, by simp, by simp [vb, ib]⟩
  have T5 : Hid (Tch [] W4 W5) := by rw [hW5]; exact Tch.alloc _ _
  clear hW5
  go_wp2
  refine J9.out _ _ (wp_seq_k (fun K10 k10 => ?_))
  have J10 := Lib.hid k10
  clear k10 J9
  clear hmk
  have X : Hid (PKS w W5 (Pu.HK.own (szOf s bl) (blOf s bl)) F2 ps.data.toList [] (List.replicate Z 0) (.slice (some ⟨W3.heap.size, 0, none⟩) 0 C) (.slice (some ⟨W4.heap.size, 0, none⟩) Z Z) W2.heap.size) := by
    have k3 := T3.out.trans (T4.out.trans T5.out)
    have z3 := Z3.out
    have z4 := Z4.out
    have t2 := T2.out.size
    have lt := M2.out.lt
    refine ⟨⟨[], M2.out.tchNil k3⟩, (O4.out.tch T5.out (by simp)).own, by have := O5.out.own; rwa [List.length_replicate] at this, ?_, ?_, ?_, N2.out, ?_, ?_, T2.out.trans k3, ⟨[0, 0, 0, 0], rfl, R3.out.tch (T4.out.trans T5.out) (by simp)⟩, ?_, ?_, ?_, t2⟩
    · intro b hb hm; simp only [Value.ownBlock, Option.some.injEq] at hb; have := lt b hm; omega
    · intro b hb hm; simp only [Value.ownBlock, Option.some.injEq] at hb; have := lt b hm; omega
    · intro b hb e; simp only [Value.ownBlock, Option.some.injEq] at hb e; omega
    · intro b hb; simp only [Value.ownBlock, Option.some.injEq] at hb; omega
    · intro b hb; simp only [Value.ownBlock, Option.some.injEq] at hb; omega
    · intro hm; have := lt _ hm; omega
    · intro e; simp only [Value.ownBlock, Option.some.injEq] at e; omega
    · intro e; simp only [Value.ownBlock, Option.some.injEq] at e; omega
  clear R3 O4 O5 T3 T4 T5 Z3 Z4 T2 M2 N2 HDV
  refine wp_seq_k (fun K11 k11 => ?_)
  have J11 := Lib.hid k11
  clear k11
  go_wp2
  refine J11.out _ _ (wp_block ?_)
  refine pcLoop _ w W5 ⟨rfl, rfl⟩ _ (Pu.HK.own (szOf s bl) (blOf s bl)) F2 ps.data.toList salt _ sv _ _ _ Z M NB X.out (by simp) HZ.out.symm HS.out HSN.out HSB.out HSL.out HNB1.out HM.out rfl rfl rfl rfl rfl rfl rfl rfl rfl ?_
  rintro a' w' ⟨f, sm, vo, g16, h3⟩
  refine J10.out _ _ ?_
  have g4 : G a' 4 = .int .i64 (K : Int) := sm.get 4 rfl
  have hol : (derAll (Pu.HK.own (szOf s bl) (blOf s bl)) ps.data.toList salt M NB).length = C := by rw [derAll_length, ← HZ.out, HC.out]
  obtain ⟨p, c, rfl⟩ := own_ex h3.out.1
  rw [hol] at h3 g16
  have hcc : C ≤ c := by
    obtain ⟨_, _, e, h, _⟩ := h3.out.1.rd
    simp only [Value.slice.injEq] at e
    obtain ⟨_, e2, rfl⟩ := e
    omega
  have hsl : ∀ w, (Instr.slice 24 (.slice p C c) none (some (.int .i64 (K : Int))) none).run Try.prog w = .ok (.slice p K c) w := fun w => run_upto w _ C c K p rfl h3.out.1.nm (by have := HKC.out; have := HC.out; omega)
  have HOL := Lib.hid hol
  rw [lit126 a' f]
  simp only [g4, g16]
  clear f sm g4 g16 hcc hol
  go_wp2
  go_ret2
  refine ⟨_, rfl, ?_, ?_, h3.out.2⟩
  · have r := h3.out.1.rd
    have hk2 : K ≤ (derAll (Pu.HK.own (szOf s bl) (blOf s bl)) ps.data.toList salt M NB).length := by rw [HOL.out, HC.out]; exact HKC.out
    rw [← HOL.out] at r
    have := r.take K hk2
    unfold derive
    rw [← HZ.out, ← HNB.out]
    exact this
  · rcases h3.out.1.nm with e | ⟨b, o, n', c', e⟩
    · simp only [Value.slice.injEq] at e
      have := HKC.out
      have := HC.out
      obtain ⟨_, e2, _⟩ := e
      omega
    · simp only [Value.slice.injEq] at e
      obtain ⟨rfl, _, _⟩ := e
      exact .inr ⟨_, _, _, _, rfl⟩
end Go.Proofs.Ytgomodhhomekpaa
