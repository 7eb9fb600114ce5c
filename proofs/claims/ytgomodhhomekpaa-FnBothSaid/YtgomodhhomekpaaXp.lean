/-
  hkdf.Expand: one round.
-/
import Derived.Test.YtgomodhhomekpaaM6
import Derived.Test.YtgomodhhomekpaaSt
import Derived.Test.YtgomodhhomekpaaFd
namespace Go.Proofs.Ytgomodhhomekpaa
open Go.RowKit Pu Ar
/-- Where the loop stands: so many blocks have been made. -/
structure XPS (wb w : World) (hk : Pu.HK) (F : HF) (prk info : By) (K j : Nat) (vo vb : Value) : Prop where
  km : ∃ l, KM w hk F prk l ∧ (j = 0 → l = [])
  out : Own w vo ((expAll hk prk info j).take K)
  buf : Own w vb (expT hk prk info j)
  offo : Off F.all vo
  offb : Off F.all vb
  ob : ∀ b, vo.ownBlock = some b → vb.ownBlock ≠ some b
  newF : NewF wb F
  newo : ∀ b, vo.ownBlock = some b → wb.heap.size ≤ b
  newb : ∀ b, vb.ownBlock = some b → wb.heap.size ≤ b
  tch : Tch [] wb w
def XPR (a : Act) (wb : World) (hk : Pu.HK) (m : Nat) (prk info : By) (K j : Nat) (a' : Act) (w' : World) : Prop :=
  Frm 61 a' ∧ Same [2, 3, 10] a a' ∧ G a' 11 = .int .u8 (j : Int) ∧ ∃ F' vo' vb', F'.m = m ∧ G a' 9 = vo' ∧ G a' 12 = vb' ∧ Hid (XPS wb w' hk F' prk info K j vo' vb')
/-- What the next block adds to what has been made. -/
theorem exp_more (hk : Pu.HK) (prk info : By) (K j N : Nat) (hN : N = j * hk.size) (hNK : N < K) :
    (expAll hk prk info j).take K ++ (expT hk prk info (j + 1)).take (min (K - N) hk.size) = (expAll hk prk info (j + 1)).take K := by
  simp only [expAll]
  rw [List.take_append, List.take_of_length_le (by rw [expAll_length, ← hN]; omega), expAll_length, ← hN]
  congr 1
  rw [← List.take_take, List.take_of_length_le (l := expT hk prk info (j + 1)) (by rw [expT_length]; exact Nat.le_refl _)]
set_option maxHeartbeats 1000000 in
set_option maxRecDepth 100000 in
theorem xpEnd (a : Act) (wb w : World) (h : Frm 61 a) (Q : Exit → Act → World → Prop) (hk : Pu.HK) (F : HF) (prk info l : By) (fs : ByteArray) (K j N Z r : Nat) (op vp : Option Addr) (oc vc : Nat)
    (hM : KM w hk F prk l) (hout : Own w (.slice op N oc) ((expAll hk prk info j).take K)) (hbuf : Own w (.slice vp Z vc) (expT hk prk info (j + 1))) (hoffo : Off F.all (.slice op N oc)) (hoffb : Off F.all (.slice vp Z vc)) (hob : ∀ b, (Value.slice op N oc).ownBlock = some b → (Value.slice vp Z vc).ownBlock ≠ some b)
    (hF : NewF wb F) (hno : ∀ b, (Value.slice op N oc).ownBlock = some b → wb.heap.size ≤ b) (hnb : ∀ b, (Value.slice vp Z vc).ownBlock = some b → wb.heap.size ≤ b) (hT : Tch [] wb w)
    (hN : N = j * hk.size) (hNK : N < K) (hK : K ≤ 10000) (hZ : Z = hk.size) (hr : r = min (K - N) Z)
    (g2 : G a 2 = .string fs) (g3 : G a 3 = .int .i64 (K : Int)) (g9 : G a 9 = .slice op N oc) (g10 : G a 10 = .pointer (some ⟨F.m, 0, none⟩)) (g11 : G a 11 = .int .u8 ((j : Int) + 1)) (g12 : G a 12 = .slice vp Z vc) (g13 : G a 13 = .int .i64 (r : Int))
    (hQ : ∀ a' w', XPR a wb hk F.m prk info K (j + 1) a' w' → Q .normal a' w') :
    (part (bodyOf Try.f52) [true, true, true, true, true, false, false, false, true, false, true, true, true, true, true, true, true, true, true]).wp Try.prog Q a w := by
  have hvc : Z ≤ vc := by
    obtain ⟨_, _, e, h, _⟩ := hbuf.rd
    simp only [Value.slice.injEq] at e
    obtain ⟨_, e2, rfl⟩ := e
    omega
  have hrz : r ≤ Z := by omega
  have hs1 : ∀ w, (Instr.slice 24 (.slice vp Z vc) none (some (.int .i64 (r : Int))) none).run Try.prog w = .ok (.slice vp r vc) w := fun w => run_upto w _ Z vc r vp rfl hbuf.nm (by omega)
  have hlen5 : (expT hk prk info (j + 1)).length = Z := by rw [expT_length, hZ]
  have HR : Hid (Rd w (.slice vp r vc) ((expT hk prk info (j + 1)).take r)) := by
    have := hbuf.rd
    rw [← hlen5] at this hrz
    exact this.take r hrz
  have hol : ((expAll hk prk info j).take K).length = N := by rw [List.length_take, expAll_length, ← hN]; omega
  have hfin := exp_more hk prk info K j N hN hNK
  rw [← hZ, ← hr] at hfin
  have HFIN := Lib.hid hfin
  have HLN : Hid (((expAll hk prk info j).take K).length + ((expT hk prk info (j + 1)).take r).length ≤ 140737488355328) := by rw [hol, List.length_take]; show _ ≤ _; omega
  have HM := Lib.hid hM
  have HO := Lib.hid hout
  have HB := Lib.hid hbuf
  have HOFO := Lib.hid hoffo
  have HOFB := Lib.hid hoffb
  have HOB := Lib.hid hob
  have HNF := Lib.hid hF
  have HNO := Lib.hid hno
  have HNB := Lib.hid hnb
  have HT := Lib.hid hT
  conv => arg 2; whnf
  rw [lit61 a h]
  have E2 := Lib.hid g2
  have E3 := Lib.hid g3
  have E10 := Lib.hid g10
  simp only [g2, g3, g9, g10, g11, g12, g13]
  clear h g2 g3 g9 g10 g11 g12 g13 hM hout hbuf hoffo hoffb hob hF hno hnb hT hN hNK hK hZ hr hvc hrz hlen5 hol hfin
  go_wp2_with (refine wpList_append_by rfl _ _ rfl (.slice op N oc) (.slice vp r vc) _ _ rfl rfl HO.out HR.out HLN.out ?_)
  intro v' w' h5
  go_wp2
  obtain ⟨o1, o2, _, o4⟩ := h5.out
  rw [HFIN.out] at o1
  have e2 := E2.out
  have e3 := E3.out
  have e10 := E10.out
  have hlt := HM.out.lt
  have hob' : ∀ b, v'.ownBlock = some b → (Value.slice vp Z vc).ownBlock ≠ some b := by
    intro b hb
    rcases o4 with h | ⟨g, h, hg⟩
    · exact HOB.out b (by rw [← h]; exact hb)
    · intro e
      rw [h] at hb
      simp only [Option.some.injEq] at hb
      have := HB.out.lt b e
      omega
  have oo : Off F.all v' := by
    rcases o4 with h | ⟨g, h, hg⟩
    · exact fun b hb => HOFO.out b (by rw [← h]; exact hb)
    · intro b hb hm
      rw [h] at hb
      simp only [Option.some.injEq] at hb
      have := hlt b hm
      omega
  have hS : Off (Value.slice op N oc).ownBlock.toList (Value.slice vp Z vc) := by
    intro b hb hm
    simp only [Option.mem_toList] at hm
    exact HOB.out b hm hb
  refine ⟨⟨rfl, rfl⟩, ⟨e2.symm, e3.symm, e10.symm, trivial⟩, rfl, F, v', .slice vp Z vc, rfl, rfl, rfl, ⟨l, HM.out.tch o2 (fun b hb hm => HOFO.out b (by simpa using hm) hb), fun e => by omega⟩, o1, HB.out.tch o2 hS, oo, HOFB.out, hob', HNF.out, ?_, HNB.out, ?_⟩
  · intro b hb
    rcases o4 with h | ⟨g, h, hg⟩
    · exact HNO.out b (by rw [← h]; exact hb)
    · rw [h] at hb
      simp only [Option.some.injEq] at hb
      have := HT.out.size
      omega
  · exact tchNew HT.out o2 (by intro b hb; exact HNO.out b (by simpa using hb))
set_option maxHeartbeats 1000000 in
set_option maxRecDepth 100000 in
theorem xpTail (a : Act) (wb w : World) (h : Frm 61 a) (Q : Exit → Act → World → Prop) (hk : Pu.HK) (F : HF) (prk info : By) (fs : ByteArray) (K j N : Nat) (vo vb : Value)
    (hM : KM w hk F prk []) (hout : Own w vo ((expAll hk prk info j).take K)) (hbuf : Own w vb (expT hk prk info j)) (hoffo : Off F.all vo) (hoffb : Off F.all vb) (hob : ∀ b, vo.ownBlock = some b → vb.ownBlock ≠ some b)
    (hF : NewF wb F) (hno : ∀ b, vo.ownBlock = some b → wb.heap.size ≤ b) (hnb : ∀ b, vb.ownBlock = some b → wb.heap.size ≤ b) (hT : Tch [] wb w)
    (hN : N = j * hk.size) (hNK : N < K) (hK : K ≤ 10000) (hj : j < 255) (hfs : fs.data.toList = info) (hfl : fs.size ≤ 2147483647)
    (g2 : G a 2 = .string fs) (g3 : G a 3 = .int .i64 (K : Int)) (g9 : G a 9 = vo) (g10 : G a 10 = .pointer (some ⟨F.m, 0, none⟩)) (g11 : G a 11 = .int .u8 ((j : Int) + 1)) (g12 : G a 12 = vb)
    (hQ : ∀ a' w', XPR a wb hk F.m prk info K (j + 1) a' w' → Q .normal a' w') :
    (part (bodyOf Try.f52) [true, true, true, true, true, false, false, false, true, false, true, true, true]).wp Try.prog Q a w := by
  have hok := hM.ok
  have hs1 := hok.size_pos
  have hs2 := hok.size_le
  have B : Hid (wb.heap.size ≤ F.m ∧ wb.heap.size ≤ F.bo ∧ wb.heap.size ≤ F.so ∧ wb.heap.size ≤ F.bi ∧ wb.heap.size ≤ F.si) := hF.blk hM
  have hol : ((expAll hk prk info j).take K).length = N := by rw [List.length_take, expAll_length, ← hN]; omega
  have hbl : (expT hk prk info j).length ≤ 32 := by
    cases j with
    | zero => simp [expT]
    | succ j => rw [expT_length]; exact hs2
  have hil : info.length ≤ 2147483647 := by rw [← hfs]; show fs.data.toList.length ≤ _; rw [Array.length_toList]; exact hfl
  obtain ⟨op, oc, rfl⟩ := own_ex hout
  rw [hol] at hout hoffo hob hno g9
  obtain ⟨W2, c2, hcv, hW2⟩ : ∃ W2 : World → World, ∃ c2 : World → Nat, (∀ w : World, (convert 9 24 (.string fs)).run Try.prog w = .ok (.slice (some ⟨w.heap.size, 0, none⟩) fs.size (c2 w)) (W2 w)) ∧ ∀ w, Hid (Tch [] w (W2 w) ∧ Rd (W2 w) (.slice (some ⟨w.heap.size, 0, none⟩) fs.size (c2 w)) info) := by
    refine ⟨fun w => (by_of_str w fs (by omega)).choose, fun w => (by_of_str w fs (by omega)).choose_spec.choose, fun w => (by_of_str w fs (by omega)).choose_spec.choose_spec.1, fun w => ?_⟩
    rw [← hfs]; exact (by_of_str w fs (by omega)).choose_spec.choose_spec.2
  have HW2 := Lib.hid hW2
  have HO := Lib.hid hout
  have HB := Lib.hid hbuf
  have HOFO := Lib.hid hoffo
  have HOFB := Lib.hid hoffb
  have HOB := Lib.hid hob
  have HNF := Lib.hid hF
  have HNO := Lib.hid hno
  have HNB := Lib.hid hnb
  have HT := Lib.hid hT
  have HN := Lib.hid hN
  have HNK := Lib.hid hNK
  have HK := Lib.hid hK
  have HS1 := Lib.hid hs1
  have HS2 := Lib.hid hs2
  have HBL := Lib.hid hbl
  have HIL := Lib.hid hil
  have HM := Lib.hid hM
  conv => arg 2; whnf
  rw [lit61 a h]
  have E2 := Lib.hid g2
  have E3 := Lib.hid g3
  have E10 := Lib.hid g10
  simp only [g2, g3, g9, g10, g11, g12]
  clear h g2 g3 g9 g10 g11 g12 hW2 hout hbuf hoffo hoffb hob hF hno hnb hT hN hNK hK hs1 hs2 hbl hil hM hfs hol hok hfl
  refine wp_seq_k (fun K0 k0 => ?_)
  have J0 := Lib.hid k0
  clear k0
  go_wp2_with (fail)
  refine (kmWrite hk F prk [] (expT hk prk info j) vb w HM.out HB.out.rd HB.out.nm (off_sub HOFB.out (by simp +contextual [HF.all])) (by have := HBL.out; simp; omega)).mono ?_
  rintro e w1 ⟨rfl, h1⟩
  have M1 : Hid (KM w1 hk F prk (expT hk prk info j)) := h1.out.1
  have T1 : Hid (Tch [F.bi, F.si] w w1) := h1.out.2
  have hcv1 := hcv w1
  have hc1 := HW2.out w1
  generalize W2 w1 = w2 at hcv1 hc1
  generalize c2 w1 = cc at hcv1 hc1
  have M2 : Hid (KM w2 hk F prk (expT hk prk info j)) := M1.out.tchNil hc1.out.1
  have R2 := Lib.hid hc1.out.2
  have T2 : Hid (Tch [F.bi, F.si] w w2) := T1.out.trans (hc1.out.1.mono (by simp))
  have L2 : Hid (Off [F.bi, F.si] (.slice (some ⟨w1.heap.size, 0, none⟩) fs.size cc)) := by
    intro b hb hm
    simp only [Value.ownBlock, Option.some.injEq] at hb
    subst hb
    have l1 := M1.out.lt F.bi (by simp [HF.all])
    have l2 := M1.out.lt F.si (by simp [HF.all])
    simp only [List.mem_cons, List.not_mem_nil, or_false] at hm
    omega
  clear h1 hc1 hcv HW2 T1 HM W2 c2
  go_wp2
  refine J0.out _ _ (wp_seq_k (fun K1 k1 => ?_))
  have J1 := Lib.hid k1
  clear k1 J0
  go_wp2_with (fail)
  refine (kmWrite hk F prk (expT hk prk info j) info _ w2 M2.out R2.out (.inr ⟨_, _, _, _, rfl⟩) L2.out (by have := HBL.out; have := HIL.out; simp; omega)).mono ?_
  rintro e w3 ⟨rfl, h3⟩
  have M3 : Hid (KM w3 hk F prk (expT hk prk info j ++ info)) := h3.out.1
  have T3 : Hid (Tch [F.bi, F.si] w w3) := T2.out.trans h3.out.2
  clear h3 M2 R2 T2 L2 M1 hcv1
  have hib : (j : Int) + 1 = ib (UInt8.ofNat (j + 1)) := by
    unfold ib
    rw [UInt8.toNat_ofNat', Nat.mod_eq_of_lt (by omega)]; omega
  have R3 : Hid (Rd (w3.alloc (.cells #[.int .u8 ((j : Int) + 1)] 5)) (.slice (some ⟨w3.heap.size, 0, none⟩) 1 1) [UInt8.ofNat (j + 1)]) := by rw [hib]; exact rd_new1 w3 _
  have L3 : Hid (Off [F.bi, F.si] (.slice (some ⟨w3.heap.size, 0, none⟩) 1 1)) := by
    intro b hb hm
    simp only [Value.ownBlock, Option.some.injEq] at hb
    subst hb
    have l1 := M3.out.lt F.bi (by simp [HF.all])
    have l2 := M3.out.lt F.si (by simp [HF.all])
    simp only [List.mem_cons, List.not_mem_nil, or_false] at hm
    omega
  clear hib
  go_wp2
  refine J1.out _ _ (wp_seq_k (fun K2 k2 => ?_))
  have J2 := Lib.hid k2
  clear k2 J1
  go_wp2_with (fail)
  refine (kmWrite hk F prk (expT hk prk info j ++ info) [UInt8.ofNat (j + 1)] _ _ (M3.out.tchNil (Tch.alloc _ _)) R3.out (.inr ⟨_, _, _, _, rfl⟩) L3.out (by have := HBL.out; have := HIL.out; simp; omega)).mono ?_
  rintro e w4 ⟨rfl, h4⟩
  have M4 : Hid (KM w4 hk F prk (expT hk prk info j ++ info ++ [UInt8.ofNat (j + 1)])) := h4.out.1
  have T4 : Hid (Tch [F.bi, F.si] w w4) := T3.out.trans ((Tch.alloc _ _).trans h4.out.2)
  clear h4 M3 T3 R3 L3
  have O4 : Hid (Own w4 (.slice op N oc) ((expAll hk prk info j).take K)) := HO.out.tch T4.out (off_sub HOFO.out (by simp +contextual [HF.all]))
  have B4 : Hid (Own w4 vb (expT hk prk info j)) := HB.out.tch T4.out (off_sub HOFB.out (by simp +contextual [HF.all]))
  obtain ⟨z1, z2, hz⟩ := B4.out.zero
  obtain ⟨u0, hu0⟩ : ∃ u0, u0 = upto vb 0 := ⟨_, rfl⟩
  rw [← hu0] at z1 z2 hz
  clear hu0
  have Z1 := Lib.hid z1
  have Z2 := Lib.hid z2
  clear z1 z2
  go_wp2
  refine J2.out _ _ (wp_seq_k (fun K3 k3 => ?_))
  have J3 := Lib.hid k3
  clear k3 J2
  go_wp2_with (fail)
  refine (kmSum hk F prk _ [] u0 w4 M4.out Z1.out (by intro b hb; rw [Z2.out] at hb; exact HOFB.out b hb) (by have := HBL.out; have := HIL.out; simp; omega) (by simp)).mono ?_
  rintro e w5 ⟨v5, rfl, h5⟩
  have B5 : Hid (Own w5 v5 (expT hk prk info (j + 1))) := h5.out.1
  have M5 : Hid (KM w5 hk F prk (expT hk prk info j ++ info ++ [UInt8.ofNat (j + 1)])) := h5.out.2.1
  have t5 := h5.out.2.2.1
  rw [Z2.out] at t5
  have OB5 : Hid (Off (F.bo :: F.so :: vb.ownBlock.toList) (.slice op N oc)) := by
    intro b hb hm
    simp only [List.mem_cons, Option.mem_toList] at hm
    rcases hm with h | h | h
    · exact HOFO.out b hb (by rw [h]; simp [HF.all])
    · exact HOFO.out b hb (by rw [h]; simp [HF.all])
    · exact HOB.out b hb h
  have O5 : Hid (Own w5 (.slice op N oc) ((expAll hk prk info j).take K)) := O4.out.tch t5 OB5.out
  have V5 : Hid (Off F.all v5) := h5.out.2.2.2.1
  have S5 : Hid (v5.ownBlock = vb.ownBlock ∨ ∃ g, v5.ownBlock = some g ∧ w4.heap.size ≤ g) := by have := h5.out.2.2.2.2; rwa [Z2.out] at this
  have T5 : Hid (Tch [] wb w5) := by
    refine tchNew (tchNew HT.out T4.out ?_) t5 ?_
    · intro b hb; have := B.out; simp only [List.mem_cons, List.not_mem_nil, or_false] at hb; omega
    · intro b hb
      have := B.out
      simp only [List.mem_cons, Option.mem_toList] at hb
      rcases hb with h | h | h
      · omega
      · omega
      · exact HNB.out b h
  clear h5 t5 M4 O4 B4 Z1 Z2 hz
  obtain ⟨vp, vc, rfl⟩ := own_ex B5.out
  rw [expT_length] at B5 V5 S5 ⊢
  obtain ⟨Z, hZ⟩ : ∃ Z, Z = hk.size := ⟨_, rfl⟩
  have HZ := Lib.hid hZ
  rw [← hZ] at B5 V5 S5 ⊢
  clear hZ
  have b1 : (N : Int) < K := by have := HNK.out; omega
  have b2 : (K : Int) ≤ 10000 := by have := HK.out; omega
  have b3 : (Z : Int) ≤ 32 := by have := HS2.out; rw [← HZ.out] at this; omega
  obtain ⟨M, hMM⟩ : ∃ M, M = K - N := ⟨_, rfl⟩
  have b4 : (K : Int) - N = (M : Int) := by omega
  have HMM := Lib.hid hMM
  clear hMM
  have fin : Hid (∀ (a' : Act) (r : Nat), Frm 61 a' → Same [2, 3, 10] a a' → G a' 2 = .string fs → G a' 3 = .int .i64 (K : Int) → G a' 10 = .pointer (some ⟨F.m, 0, none⟩) → r = min (K - N) Z → G a' 9 = .slice op N oc → G a' 11 = .int .u8 ((j : Int) + 1) → G a' 12 = .slice vp Z vc → G a' 13 = .int .i64 (r : Int) → (part (bodyOf Try.f52) [true, true, true, true, true, false, false, false, true, false, true, true, true, true, true, true, true, true, true]).wp Try.prog Q a' w5) := by
    intro a' r f sm e2 e3 e10 hr e9 e11 e12 e13
    refine xpEnd a' wb w5 f Q hk F prk info _ fs K j N Z r op vp oc vc M5.out O5.out B5.out HOFO.out V5.out ?_ HNF.out HNO.out ?_ T5.out HN.out HNK.out HK.out HZ.out hr e2 e3 e9 e10 e11 e12 e13 ?_
    · intro b hb e
      rcases S5.out with h | ⟨g, h, hg⟩
      · rw [h] at e; exact HOB.out b hb e
      · rw [h] at e
        simp only [Option.some.injEq] at e
        have := HO.out.lt b hb
        have := T4.out.size
        omega
    · intro b hb
      rcases S5.out with h | ⟨g, h, hg⟩
      · rw [h] at hb; exact HNB.out b hb
      · rw [h] at hb
        simp only [Option.some.injEq] at hb
        have := HT.out.size
        have := T4.out.size
        omega
    · rintro a2 w2 ⟨p1, p2, p3, p4⟩
      refine hQ _ _ ⟨p1, ?_, p3, p4⟩
      have s := sm
      simp only [Same] at s p2 ⊢
      simp only [p2, s, and_self]
  go_wp2
  refine J3.out _ _ (wp_seq_k (fun K4 k4 => ?_))
  have J4 := Lib.hid k4
  clear k4 J3
  go_wp2
  refine J4.out _ _ (wp_seq_k (fun K5 k5 => ?_))
  have J5 := Lib.hid k5
  clear k5 J4 b4
  have e2 := E2.out
  have e3 := E3.out
  have e10 := E10.out
  by_cases hmz : (M : Int) ≤ Z
  · go_wp2
    refine J5.out _ _ (fin.out _ M ⟨rfl, rfl⟩ ⟨e2.symm, e3.symm, e10.symm, trivial⟩ rfl rfl rfl (by have := HMM.out; omega) rfl rfl rfl rfl)
  · have hmz' : (Z : Int) < M := by omega
    clear hmz
    go_wp2
    refine J5.out _ _ (fin.out _ Z ⟨rfl, rfl⟩ ⟨e2.symm, e3.symm, e10.symm, trivial⟩ rfl rfl rfl (by have := HMM.out; omega) rfl rfl rfl rfl)
end Go.Proofs.Ytgomodhhomekpaa
