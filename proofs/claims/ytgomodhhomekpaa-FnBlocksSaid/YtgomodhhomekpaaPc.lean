/-
  pbkdf2.Key: the loop of blocks.
-/
import Derived.Test.YtgomodhhomekpaaM6
import Derived.Test.YtgomodhhomekpaaPb
namespace Go.Proofs.Ytgomodhhomekpaa
open Go.RowKit Pu Ar
theorem shrI (n s : Nat) (yk : IntKind) (hs : s ≤ 64) : Op.shift .shr .i64 (n : Int) yk (s : Int) = pure (.int .i64 ((n / 2 ^ s : Nat) : Int)) := by
  rw [shift_shr_any _ _ _ _ (by omega), show min (s : Int).toNat IntKind.i64.bits = s from by rw [Int.toNat_natCast]; exact Nat.min_eq_left hs]; simp
/-- The number is written. -/
theorem PKS.setB {wb w w' : World} {hk : Pu.HK} {F : HF} {pw X U : By} {vo vu : Value} {bb : Nat} (S : PKS wb w hk F pw X U vo vu bb) (T : Tch [bb] w w') (R : ∃ bs : By, bs.length = 4 ∧ Row w' bb 110 (bs.map vb)) : PKS wb w' hk F pw X U vo vu bb := by
  obtain ⟨l0, hl0⟩ := S.km
  have hF : ∀ b ∈ F.all, b ∉ [bb] := by
    intro b hb h
    rw [List.mem_singleton.1 h] at hb
    exact S.offb hb
  refine ⟨⟨l0, hl0.tch T hF⟩, S.out.tch T ?_, S.u.tch T ?_, S.offo, S.offu, S.ob, S.newF, S.newo, S.newu, tchNew S.tch T (by intro b hb; rw [List.mem_singleton.1 hb]; exact S.newb), R, S.offb, S.obo, S.obu, S.newb⟩
  · intro b hb h
    rw [List.mem_singleton.1 h] at hb
    exact S.obo hb
  · intro b hb h
    rw [List.mem_singleton.1 h] at hb
    exact S.obu hb
/-- U is written. -/
theorem PKS.setU {wb w w' : World} {hk : Pu.HK} {F : HF} {pw X U U' : By} {vo : Value} {bb g c n : Nat} (S : PKS wb w hk F pw X U vo (.slice (some ⟨g, 0, none⟩) n c) bb) (O : OwnC w' g c U') (hn : n = U'.length) (T : Tch [g] w w') :
    PKS wb w' hk F pw X U' vo (.slice (some ⟨g, 0, none⟩) n c) bb := by
  obtain ⟨l0, hl0⟩ := S.km
  have hg : ∀ b ∈ F.all, b ∉ [g] := by
    intro b hb h
    rw [List.mem_singleton.1 h] at hb
    exact S.offu g rfl hb
  obtain ⟨bs, hb1, hb2⟩ := S.buf
  have hbg : bb ≠ g := fun e => S.obu (by rw [e]; rfl)
  refine ⟨⟨l0, hl0.tch T hg⟩, S.out.tch T ?_, by rw [hn]; exact O.own, S.offo, S.offu, S.ob, S.newF, S.newo, S.newu, tchNew S.tch T ?_, ⟨bs, hb1, hb2.tch T (by simpa using hbg)⟩, S.offb, S.obo, S.obu, S.newb⟩
  · intro b hb h
    rw [List.mem_singleton.1 h] at hb
    exact S.ob g hb rfl
  · intro b hb
    rw [List.mem_singleton.1 hb]
    exact S.newu g rfl
/-- The whole of a row is written anew. -/
theorem OwnC.over {w : World} {g cap k : Nat} {ys : By} {cur : List Value} (h2 : cur.length = cap) (hm : cap ≤ maxLen) (hk : ys.length = k) (hc : k ≤ cap) (R : Row w g 5 (List.take k (ys.map vb) ++ cur.drop k)) : OwnC w g cap ys := by
  refine ⟨by omega, hm, _, R, ?_, ?_⟩
  · simp; omega
  · rw [List.take_of_length_le (l := ys.map vb) (by simp; omega)]
    exact List.take_left' (by simp)
def PCR (a : Act) (wb : World) (hk : Pu.HK) (m : Nat) (pw X : By) (bb Z : Nat) (a' : Act) (w' : World) : Prop :=
  Frm 126 a' ∧ Same [2, 3, 4, 12, 13, 14, 15, 18] a a' ∧ ∃ F' vo' vu' U', F'.m = m ∧ G a' 16 = vo' ∧ G a' 17 = vu' ∧ U'.length = Z ∧ Hid (PKS wb w' hk F' pw X U' vo' vu' bb)
set_option maxHeartbeats 1000000 in
set_option maxRecDepth 100000 in
theorem pcBody (a : Act) (wb w : World) (h : Frm 126 a) (Q : Exit → Act → World → Prop) (hk : Pu.HK) (F : HF) (pw salt U : By) (sv vo vu : Value) (bb Z j B N M : Nat)
    (S : PKS wb w hk F pw (derAll hk pw salt M j) U vo vu bb) (hU : U.length = Z) (hZ : hk.size = Z) (hs : Rd wb sv salt) (hsn : Nm sv) (hsb : ∀ b, sv.ownBlock = some b → b < wb.heap.size) (hsl : salt.length ≤ 2147483647) (hB : B = j + 1) (hj : j ≤ 10000) (hN : N = j * hk.size) (hN2 : N ≤ 1000000) (hM : M ≤ 100000)
    (g2 : G a 2 = sv) (g3 : G a 3 = .int .i64 ((M : Int) + 1)) (g12 : G a 12 = .pointer (some ⟨F.m, 0, none⟩)) (g13 : G a 13 = .int .i64 (Z : Int)) (g15 : G a 15 = .pointer (some ⟨bb, 0, none⟩)) (g16 : G a 16 = vo) (g17 : G a 17 = vu) (g18 : G a 18 = .int .i64 (B : Int))
    (hQ : ∀ a' w', PCR a wb hk F.m pw (derAll hk pw salt M (j + 1)) bb Z a' w' → Q .normal a' w') :
    (part (bodyOf Try.f58) [true, true, true, true, true, true, true, true, true, true, false, true, false, false, true, false, false]).wp Try.prog Q a w := by
  obtain ⟨l0, hl0⟩ := S.km
  have hs1 := hl0.ok.size_pos
  have hs2 := hl0.ok.size_le
  rw [hZ] at hs1 hs2
  have B0 : Hid (wb.heap.size ≤ F.m ∧ wb.heap.size ≤ F.bo ∧ wb.heap.size ≤ F.so ∧ wb.heap.size ≤ F.bi ∧ wb.heap.size ≤ F.si) := S.newF.blk hl0
  obtain ⟨n24, hn24⟩ : ∃ n : Int, n = ((B / 16777216 : Nat) : Int) := ⟨_, rfl⟩
  have e24 : ∀ yk, Op.shift .shr .i64 (B : Int) yk 24 = pure (.int .i64 n24) := fun yk => by rw [hn24]; exact shrI B 24 yk (by omega)
  have v24 : IntKind.u8.wrap n24 = ib (UInt8.ofNat (B / 16777216)) := by rw [hn24]; exact Ar.wrap_of8 _
  clear hn24
  obtain ⟨n16, hn16⟩ : ∃ n : Int, n = ((B / 65536 : Nat) : Int) := ⟨_, rfl⟩
  have e16 : ∀ yk, Op.shift .shr .i64 (B : Int) yk 16 = pure (.int .i64 n16) := fun yk => by rw [hn16]; exact shrI B 16 yk (by omega)
  have v16 : IntKind.u8.wrap n16 = ib (UInt8.ofNat (B / 65536)) := by rw [hn16]; exact Ar.wrap_of8 _
  clear hn16
  obtain ⟨n8, hn8⟩ : ∃ n : Int, n = ((B / 256 : Nat) : Int) := ⟨_, rfl⟩
  have e8 : ∀ yk, Op.shift .shr .i64 (B : Int) yk 8 = pure (.int .i64 n8) := fun yk => by rw [hn8]; exact shrI B 8 yk (by omega)
  have v8 : IntKind.u8.wrap n8 = ib (UInt8.ofNat (B / 256)) := by rw [hn8]; exact Ar.wrap_of8 _
  clear hn8
  have v0 := Ar.wrap_of8 B
  have hbi : (B : Int) ≤ 20000 := by omega
  have hZi : (Z : Int) ≤ 32 := by omega
  have hZ1 : (1 : Int) ≤ Z := by omega
  have HB := Lib.hid hB
  have HZ := Lib.hid hZ
  have HS := Lib.hid S
  have HM := Lib.hid hl0
  have HU := Lib.hid hU
  have HS1 := Lib.hid hs1
  have HS2 := Lib.hid hs2
  have HSA := Lib.hid hs
  have HSN := Lib.hid hsn
  have HSB := Lib.hid hsb
  have HSL := Lib.hid hsl
  have HN := Lib.hid hN
  have HN2 := Lib.hid hN2
  have HMB := Lib.hid hM
  conv => arg 2; whnf
  rw [lit126 a h]
  have E2 := Lib.hid g2
  have E3 := Lib.hid g3
  have E12 := Lib.hid g12
  have E13 := Lib.hid g13
  have E15 := Lib.hid g15
  have E18 := Lib.hid g18
  simp only [g2, g3, g12, g13, g15, g16, g17, g18]
  clear h g2 g3 g12 g13 g15 g16 g17 g18 S hl0 hU hZ hs1 hs2 hs hsn hsb hsl hB hj hN hN2 hM
  refine wp_seq_k (fun K0 k0 => ?_)
  have J0 := Lib.hid k0
  clear k0
  go_wp2_with (fail)
  refine (kmReset hk F pw l0 w HM.out).mono ?_
  rintro e w1 ⟨rfl, F1, h1⟩
  have S1 : Hid (PKS wb w1 hk F1 pw (derAll hk pw salt M j) U vo vu bb ∧ KM w1 hk F1 pw []) := ⟨HS.out.mac h1.out.2.2.1 h1.out.1 h1.out.2.2.2, h1.out.1⟩
  have EM : Hid (F.m = F1.m) := h1.out.2.1.symm
  clear h1 HM HS
  go_wp2
  refine J0.out _ _ (wp_seq_k (fun K1 k1 => ?_))
  have J1 := Lib.hid k1
  clear k1 J0
  rw [EM.out]
  have B1 : Hid (wb.heap.size ≤ F1.m ∧ wb.heap.size ≤ F1.bo ∧ wb.heap.size ≤ F1.so ∧ wb.heap.size ≤ F1.bi ∧ wb.heap.size ≤ F1.si) := S1.out.1.newF.blk S1.out.2
  go_wp2_with (fail)
  refine (kmWrite hk F1 pw [] salt sv w1 S1.out.2 (HSA.out.tchNil S1.out.1.tch) HSN.out (by
    intro b hb hm
    have := HSB.out b hb
    have := B1.out
    simp only [List.mem_cons, List.not_mem_nil, or_false] at hm
    omega) (by have := HSL.out; simp; omega)).mono ?_
  rintro e w2 ⟨rfl, h2⟩
  have S2 : Hid (PKS wb w2 hk F1 pw (derAll hk pw salt M j) U vo vu bb ∧ KM w2 hk F1 pw salt) := ⟨S1.out.1.mac (h2.out.2.mono (by simp +contextual)) h2.out.1 (fun b hb => .inl hb), h2.out.1⟩
  clear h2 S1 B1
  go_wp2
  refine J1.out _ _ (wp_seq_k (fun K2 k2 => ?_))
  have J2 := Lib.hid k2
  clear k2 J1
  obtain ⟨bs, hb1, hb2⟩ := S2.out.1.buf
  obtain ⟨x0, x1, x2, x3, rfl⟩ : ∃ x0 x1 x2 x3, bs = [x0, x1, x2, x3] := by
    match bs, hb1 with
    | [x0, x1, x2, x3], _ => exact ⟨x0, x1, x2, x3, rfl⟩
  have R2 : Hid (Row w2 bb 110 [vb x0, vb x1, vb x2, vb x3]) := hb2
  clear hb1 hb2
  have b0 : w2.cell? ⟨bb, 0, none⟩ = some (vb x0) := by rw [R2.out.cell]; rfl
  have f0 := R2.out.free 0
  go_wp2
  generalize hW : World.setCell _ _ _ = w3
  have R3 : Hid (Row w3 bb 110 [vb (UInt8.ofNat (B / 16777216)), vb x1, vb x2, vb x3]) := by rw [← hW]; exact R2.out.set 0 _
  have T3 : Hid (Tch [bb] w2 w3) := by rw [← hW]; exact (Tch.setCell _ _ _ (by simp))
  clear hW b0 f0 R2
  refine J2.out _ _ (wp_seq_k (fun K3 k3 => ?_))
  have J3 := Lib.hid k3
  clear k3 J2
  have b1 : w3.cell? ⟨bb, 1, none⟩ = some (vb x1) := by rw [R3.out.cell]; rfl
  have f1 := R3.out.free 1
  go_wp2
  generalize hW : World.setCell _ _ _ = w4
  have R4 : Hid (Row w4 bb 110 [vb (UInt8.ofNat (B / 16777216)), vb (UInt8.ofNat (B / 65536)), vb x2, vb x3]) := by rw [← hW]; exact R3.out.set 1 _
  have T4 : Hid (Tch [bb] w2 w4) := by rw [← hW]; exact T3.out.trans (Tch.setCell _ _ _ (by simp))
  clear hW b1 f1 R3 T3
  refine J3.out _ _ (wp_seq_k (fun K4 k4 => ?_))
  have J4 := Lib.hid k4
  clear k4 J3
  have b2 : w4.cell? ⟨bb, 2, none⟩ = some (vb x2) := by rw [R4.out.cell]; rfl
  have f2 := R4.out.free 2
  go_wp2
  generalize hW : World.setCell _ _ _ = w5
  have R5 : Hid (Row w5 bb 110 [vb (UInt8.ofNat (B / 16777216)), vb (UInt8.ofNat (B / 65536)), vb (UInt8.ofNat (B / 256)), vb x3]) := by rw [← hW]; exact R4.out.set 2 _
  have T5 : Hid (Tch [bb] w2 w5) := by rw [← hW]; exact T4.out.trans (Tch.setCell _ _ _ (by simp))
  clear hW b2 f2 R4 T4
  refine J4.out _ _ (wp_seq_k (fun K5 k5 => ?_))
  have J5 := Lib.hid k5
  clear k5 J4
  have b3 : w5.cell? ⟨bb, 3, none⟩ = some (vb x3) := by rw [R5.out.cell]; rfl
  have f3 := R5.out.free 3
  go_wp2
  generalize hW : World.setCell _ _ _ = w6
  have R6 : Hid (Row w6 bb 110 [vb (UInt8.ofNat (B / 16777216)), vb (UInt8.ofNat (B / 65536)), vb (UInt8.ofNat (B / 256)), vb (UInt8.ofNat (B))]) := by rw [← hW]; exact R5.out.set 3 _
  have T6 : Hid (Tch [bb] w2 w6) := by rw [← hW]; exact T5.out.trans (Tch.setCell _ _ _ (by simp))
  clear hW b3 f3 R5 T5
  refine J5.out _ _ (wp_seq_k (fun K6 k6 => ?_))
  have J6 := Lib.hid k6
  clear k6 J5
  have S6 : Hid (PKS wb w6 hk F1 pw (derAll hk pw salt M j) U vo vu bb ∧ KM w6 hk F1 pw salt) := ⟨S2.out.1.setB T6.out ⟨be4 B, rfl, R6.out⟩, S2.out.2.tch T6.out (by
    intro b hb h
    rw [List.mem_singleton.1 h] at hb
    exact S2.out.1.offb hb)⟩
  have RB : Hid (Rd w6 (.slice (some ⟨bb, 0, none⟩) 4 4) (be4 B)) := rd_row (l := be4 B) R6.out rfl (by simp [be4, maxLen])
  have LB : Hid (Off [F1.bi, F1.si] (.slice (some ⟨bb, 0, none⟩) 4 4)) := by
    intro b hb hm
    simp only [Value.ownBlock, Option.some.injEq] at hb
    subst hb
    exact S2.out.1.offb (by simp only [List.mem_cons, List.not_mem_nil, or_false] at hm; simp only [HF.all, List.mem_cons]; omega)
  clear S2 R6 T6 e24 e16 e8 v24 v16 v8 v0
  go_wp2_with (fail)
  refine (kmWrite hk F1 pw salt (be4 B) _ w6 S6.out.2 RB.out (.inr ⟨_, _, _, _, rfl⟩) LB.out (by have := HSL.out; simp [be4]; omega)).mono ?_
  rintro e w7 ⟨rfl, h7⟩
  have S7 : Hid (PKS wb w7 hk F1 pw (derAll hk pw salt M j) U vo vu bb ∧ KM w7 hk F1 pw (salt ++ be4 B)) := ⟨S6.out.1.mac (h7.out.2.mono (by simp +contextual)) h7.out.1 (fun b hb => .inl hb), h7.out.1⟩
  clear h7 S6 RB LB
  go_wp2
  refine J6.out _ _ (wp_seq_k (fun K7 k7 => ?_))
  have J7 := Lib.hid k7
  clear k7 J6
  go_wp2_with (fail)
  refine (kmSum hk F1 pw (salt ++ be4 B) (derAll hk pw salt M j) vo w7 S7.out.2 S7.out.1.out S7.out.1.offo (by have := HSL.out; simp [be4]; omega) (by rw [derAll_length, ← HN.out]; have := HN2.out; omega)).mono ?_
  rintro e w8 ⟨v8, rfl, h8⟩
  have S8 : Hid (PKS wb w8 hk F1 pw (derAll hk pw salt M j ++ derF hk pw salt B 0) U v8 vu bb) := S7.out.1.sumO h8.out.1 h8.out.2.1 h8.out.2.2.1 h8.out.2.2.2.1 h8.out.2.2.2.2
  clear h8 S7
  have hne : derAll hk pw salt M j ++ derF hk pw salt B 0 ≠ [] := by
    intro e
    have h := congrArg List.length e
    rw [List.length_append, derF_length, HZ.out] at h
    have := HS1.out
    simp at h
    omega
  obtain ⟨g, c, rfl, hc⟩ := S8.out.out.c hne
  have hlen : (derAll hk pw salt M j ++ derF hk pw salt B 0).length = N + Z := by rw [List.length_append, derAll_length, derF_length, ← HN.out, HZ.out]
  have hcap : N + Z ≤ c := by rw [← hlen]; exact hc.1
  rw [hlen] at S8 ⊢
  have hs1 : ∀ w, (Instr.slice 24 (.slice (some ⟨g, 0, none⟩) (N + Z) c) (some (.int .i64 (N : Int))) none none).run Try.prog w = .ok (.slice (some ⟨g, N, none⟩) Z (c - N)) w := by
    intro w
    rw [run_cut w _ (N + Z) c N _ rfl (.inr ⟨_, _, _, _, rfl⟩) (by omega) (by omega)]
    have : ¬ c = N := by have := HS1.out; omega
    simp [cut, this]
  have hsub : ((N + Z : Nat) : Int) - (Z : Int) = (N : Int) := by omega
  have hni : ((N + Z : Nat) : Int) ≤ 2000000 := by have := HN2.out; omega
  clear hc hne hlen hcap
  go_wp2
  refine J7.out _ _ (wp_seq_k (fun K8 k8 => ?_))
  have J8 := Lib.hid k8
  clear k8 J7
  go_wp2
  refine J8.out _ _ (wp_seq_k (fun K9 k9 => ?_))
  have J9 := Lib.hid k9
  clear k9 J8
  have RT : Hid (Rd w8 (.slice (some ⟨g, N, none⟩) Z (c - N)) (derF hk pw salt B 0)) := by
    have := S8.out.out.tail (nx := N) (by rw [derAll_length, ← HN.out])
    rwa [Nat.add_sub_cancel_left] at this
  have hun : U ≠ [] := by
    intro e
    have := HU.out
    have := HS1.out
    rw [e] at *
    simp at *
    omega
  obtain ⟨gu, cu, rfl, hcu⟩ := S8.out.u.c hun
  rw [HU.out] at S8 ⊢
  obtain ⟨hcl, hcm, cur, hcr, hcur, _⟩ := hcu
  rw [HU.out] at hcl
  have HCL := Lib.hid hcl
  have HCM := Lib.hid hcm
  have HCR := Lib.hid hcr
  have HCUR := Lib.hid hcur
  have DL : Hid ((derF hk pw salt B 0).length = Z) := by show _ = _; rw [derF_length, HZ.out]
  clear hcl hcm hcr hcur hun hs1 hsub hni
  go_wp2_with (refine wpList_copy_by rfl _ _ rfl gu 0 Z cu _ (derF hk pw salt B 0) 5 cur Z (by rw [DL.out]; exact (Nat.min_self _).symm) rfl rfl RT.out HCR.out (by rw [HCUR.out]; have := HCL.out; omega) ?_)
  intro w9 h9
  have S9 : Hid (PKS wb w9 hk F1 pw (derAll hk pw salt M j ++ derF hk pw salt B 0) (derU hk pw salt B 0) (.slice (some ⟨g, 0, none⟩) (N + Z) c) (.slice (some ⟨gu, 0, none⟩) Z cu) bb) :=
    S8.out.setU (OwnC.over HCUR.out HCM.out DL.out HCL.out h9.out.1) DL.out.symm h9.out.2
  clear h9 S8 RT HCL HCM HCR HCUR
  go_wp2
  refine J9.out _ _ (wp_seq_k (fun K10 k10 => ?_))
  have J10 := Lib.hid k10
  clear k10 J9
  go_wp2
  refine J10.out _ _ (wp_block ?_)
  have e2 := E2.out
  have e3 := E3.out
  have e12 := E12.out
  have e13 := E13.out
  have e15 := E15.out
  have e18 := E18.out
  refine pnLoop _ wb w9 ⟨rfl, rfl⟩ _ hk F1 pw salt (derAll hk pw salt M j) B _ bb g c (N + Z) Z N (c - N) M S9.out HZ.out (by rw [derAll_length, ← HN.out]) HMB.out rfl rfl rfl rfl rfl ?_
  rintro a' w' ⟨f, s, F2, vu2, hm2, g17', h4⟩
  refine hQ _ _ ⟨f, ?_, F2, .slice (some ⟨g, 0, none⟩) (N + Z) c, vu2, derU hk pw salt B M, hm2.trans EM.out.symm, s.get 16 rfl, g17', (by rw [derU_length, HZ.out]), ?_⟩
  · exact ⟨(s.get 2 rfl).trans e2.symm, (s.get 3 rfl).trans e3.symm, s.get 4 rfl, (s.get 12 rfl).trans (by rw [e12, EM.out]; rfl), (s.get 13 rfl).trans e13.symm, s.get 14 rfl, (s.get 15 rfl).trans e15.symm, (s.get 18 rfl).trans e18.symm, trivial⟩
  · obtain rfl := HB.out
    exact h4
end Go.Proofs.Ytgomodhhomekpaa
