/-
  hkdf.Expand: the loop.
-/
import Derived.Test.YtgomodhhomekpaaM6
import Derived.Test.YtgomodhhomekpaaXp
namespace Go.Proofs.Ytgomodhhomekpaa
open Go.RowKit Pu Ar
set_option maxHeartbeats 1000000 in
set_option maxRecDepth 100000 in
theorem xpRound (a : Act) (wb w : World) (h : Frm 61 a) (Q : Exit → Act → World → Prop) (hk : Pu.HK) (F : HF) (prk info : By) (fs : ByteArray) (K j : Nat) (vo vb : Value)
    (S : XPS wb w hk F prk info K j vo vb) (hNK : j * hk.size < K) (hK : K ≤ 255 * hk.size) (hfs : fs.data.toList = info) (hfl : fs.size ≤ 2147483647)
    (g2 : G a 2 = .string fs) (g3 : G a 3 = .int .i64 (K : Int)) (g9 : G a 9 = vo) (g10 : G a 10 = .pointer (some ⟨F.m, 0, none⟩)) (g11 : G a 11 = .int .u8 (j : Int)) (g12 : G a 12 = vb)
    (hQ : ∀ a' w', XPR a wb hk F.m prk info K (j + 1) a' w' → Q .normal a' w') :
    (part (bodyOf Try.f52) [true, true, true, true, true, false, false, false]).wp Try.prog Q a w := by
  obtain ⟨l0, hl0, hl1⟩ := S.km
  have hs2 := hl0.ok.size_le
  have hK' : K ≤ 10000 := by omega
  have hj : j < 255 := by
    rcases Nat.lt_or_ge j 255 with h | h
    · exact h
    · have := Nat.mul_le_mul_right hk.size h; omega
  obtain ⟨N, hN⟩ : ∃ N, N = j * hk.size := ⟨_, rfl⟩
  rw [← hN] at hNK
  have hol : ((expAll hk prk info j).take K).length = N := by rw [List.length_take, expAll_length, ← hN]; omega
  obtain ⟨op, oc, rfl⟩ := own_ex S.out
  rw [hol] at S g9
  have HS := Lib.hid S
  have HM := Lib.hid hl0
  have HL1 := Lib.hid hl1
  have HN := Lib.hid hN
  have HKK := Lib.hid hK'
  have HFS := Lib.hid hfs
  have HFL := Lib.hid hfl
  conv => arg 2; whnf
  rw [lit61 a h]
  have E2 := Lib.hid g2
  have E3 := Lib.hid g3
  have E10 := Lib.hid g10
  simp only [g2, g3, g9, g10, g11, g12]
  have b1 : (N : Int) < K := by omega
  have b2 : (j : Int) < 255 := by omega
  have hwr : IntKind.u8.wrap ((j : Int) + 1) = (j : Int) + 1 := by
    rw [show (j : Int) + 1 = ((j + 1 : Nat) : Int) by omega, wrap_of8]
    unfold ib
    rw [UInt8.toNat_ofNat', Nat.mod_eq_of_lt (by omega)]
  have hne : (((j : Int) + 1) == 0) = false := by
    have : ¬ ((j : Int) + 1 = 0) := by omega
    simpa using this
  clear h g2 g3 g9 g10 g11 g12 S hl0 hl1 hN hK' hK hol hs2 hNK hfs hfl
  refine wp_seq_k (fun K0 k0 => ?_)
  have J0 := Lib.hid k0
  clear k0
  go_wp2
  refine J0.out _ _ (wp_block ?_)
  refine wp_seq_k (fun K1 k1 => ?_)
  have J1 := Lib.hid k1
  clear k1
  go_wp2
  refine J1.out _ _ (wp_seq_k (fun K2 k2 => ?_))
  have J2 := Lib.hid k2
  clear k2
  go_wp2
  refine J2.out _ _ (wp_seq_k (fun K3 k3 => ?_))
  have J3 := Lib.hid k3
  clear k3
  by_cases h0 : j = 0
  · subst h0
    go_wp2
    refine J3.out _ _ ?_
    have e2 := E2.out
    have e3 := E3.out
    have e10 := E10.out
    have hM : KM w hk F prk [] := by have := HM.out; rwa [HL1.out (by trivial)] at this
    refine xpTail _ wb w ⟨rfl, rfl⟩ _ hk F prk info fs K 0 N _ vb hM HS.out.out HS.out.buf HS.out.offo HS.out.offb HS.out.ob HS.out.newF HS.out.newo HS.out.newb HS.out.tch HN.out (by omega) HKK.out (by omega) HFS.out HFL.out rfl rfl rfl rfl rfl rfl ?_
    rintro a' w' ⟨p1, p2, p3, p4⟩
    exact hQ _ _ ⟨p1, ⟨(p2.get 2 rfl).trans e2.symm, (p2.get 3 rfl).trans e3.symm, (p2.get 10 rfl).trans e10.symm, trivial⟩, p3, p4⟩
  · have b3 : (1 : Int) < (j : Int) + 1 := by omega
    go_wp2_with (fail)
    refine (kmReset hk F prk l0 w HM.out).mono ?_
    rintro e w1 ⟨rfl, F', h1⟩
    obtain ⟨M1, hm, T1, N1⟩ := h1.out
    have hlt := HM.out.lt
    have B : wb.heap.size ≤ F.m ∧ wb.heap.size ≤ F.bo ∧ wb.heap.size ≤ F.so ∧ wb.heap.size ≤ F.bi ∧ wb.heap.size ≤ F.si := HS.out.newF.blk HM.out
    have sub : ∀ v : Value, Off F.all v → Off [F.m, F.bo, F.so, F.bi, F.si] v := fun v h => off_sub h (by simp +contextual [HF.all])
    have ofn : ∀ v : Value, Off F.all v → (∀ b, v.ownBlock = some b → b < w.heap.size) → Off F'.all v := by
      intro v h h2 b hb hm2
      rcases N1 b hm2 with h3 | h3
      · exact h b hb h3
      · have := h2 b hb; omega
    have X1 : Hid (XPS wb w1 hk F' prk info K j (.slice op N oc) vb ∧ KM w1 hk F' prk []) := by
      have S := HS.out
      refine ⟨⟨⟨[], M1, fun _ => rfl⟩, S.out.tch T1 (sub _ S.offo), S.buf.tch T1 (sub _ S.offb), ofn _ S.offo S.out.lt, ofn _ S.offb S.buf.lt, S.ob, ?_, S.newo, S.newb, tchNew S.tch T1 (by intro b hb; simp only [List.mem_cons, List.not_mem_nil, or_false] at hb; omega)⟩, M1⟩
      intro b hb
      rcases N1 b hb with h | h
      · exact S.newF b h
      · right; have := S.tch.size; omega
    have HMM := Lib.hid hm
    clear h1 M1 hm T1 N1 hlt B sub ofn HS HM
    go_wp2
    refine J3.out _ _ ?_
    have e2 := E2.out
    have e3 := E3.out
    have e10 := E10.out
    obtain ⟨S, M⟩ := X1.out
    refine xpTail _ wb w1 ⟨rfl, rfl⟩ _ hk F' prk info fs K j N _ vb M S.out S.buf S.offo S.offb S.ob S.newF S.newo S.newb S.tch HN.out (by omega) HKK.out (by omega) HFS.out HFL.out rfl rfl rfl (by rw [HMM.out]; rfl) rfl rfl ?_
    rintro a' w' ⟨p1, p2, p3, p4⟩
    rw [HMM.out] at p4
    exact hQ _ _ ⟨p1, ⟨(p2.get 2 rfl).trans e2.symm, (p2.get 3 rfl).trans e3.symm, (p2.get 10 rfl).trans e10.symm, trivial⟩, p3, p4⟩
def XPX (a : Act) (w : World) (a' : Act) (w' : World) : Prop := Frm 61 a' ∧ Same [9] a a' ∧ w' = w
set_option maxRecDepth 100000 in
theorem xpLeave (a : Act) (w : World) (h : Frm 61 a) (Q : Exit → Act → World → Prop) (K n : Nat) (p : Option Addr) (c : Nat) (hn : K ≤ n) (g3 : G a 3 = .int .i64 (K : Int)) (g9 : G a 9 = .slice p n c)
    (hQ : ∀ a' w', XPX a w a' w' → Q (.exit 0) a' w') :
    (part (bodyOf Try.f52) [true, true, true, true, true, false, false, false]).wp Try.prog Q a w := by
  have hn' : ¬ (n : Int) < K := by omega
  conv => arg 2; whnf
  rw [lit61 a h]
  have E9 := Lib.hid g9
  simp only [g3, g9]
  clear h g3 g9 hn
  go_wp2
  have e9 := E9.out
  exact ⟨⟨rfl, rfl⟩, ⟨e9.symm, trivial⟩, rfl⟩
theorem xpLoop_eq : part (bodyOf Try.f52) [true, true, true, true, true, false, false] = .loop (part (bodyOf Try.f52) [true, true, true, true, true, false, false, false]) := by kernel_rfl
theorem xpLoop_same : part (bodyOf Try.f53) [true, true, true, true, true, false, false] = part (bodyOf Try.f52) [true, true, true, true, true, false, false] := by kernel_rfl
structure XPI (a0 : Act) (wb : World) (hk : Pu.HK) (m : Nat) (prk info : By) (K j : Nat) (a : Act) (w : World) : Prop where
  frm : Frm 61 a
  same : Same [2, 3, 10] a0 a
  le : j ≤ 255
  lt : ∀ i, j = i + 1 → i * hk.size < K
  g11 : G a 11 = .int .u8 (j : Int)
  st : ∃ F vo vb, F.m = m ∧ G a 9 = vo ∧ G a 12 = vb ∧ Hid (XPS wb w hk F prk info K j vo vb)
/-- What the loop leaves. -/
def XPE (wb : World) (l : By) (a' : Act) (w' : World) : Prop := Frm 61 a' ∧ ∃ vo, G a' 9 = vo ∧ Hid (Own w' vo l ∧ Tch [] wb w' ∧ ∀ b, vo.ownBlock = some b → wb.heap.size ≤ b)
theorem xpLoop (a : Act) (wb w : World) (h : Frm 61 a) (Q : Exit → Act → World → Prop) (hk : Pu.HK) (F : HF) (prk info : By) (fs : ByteArray) (K : Nat) (vo : Value)
    (S : XPS wb w hk F prk info K 0 vo (.slice none 0 0)) (hK : K ≤ 255 * hk.size) (hfs : fs.data.toList = info) (hfl : fs.size ≤ 2147483647)
    (g2 : G a 2 = .string fs) (g3 : G a 3 = .int .i64 (K : Int)) (g9 : G a 9 = vo) (g10 : G a 10 = .pointer (some ⟨F.m, 0, none⟩)) (g11 : G a 11 = .int .u8 0) (g12 : G a 12 = .slice none 0 0)
    (hQ : ∀ a' w', XPE wb (expand hk prk info K) a' w' → Q (.exit 0) a' w') :
    (part (bodyOf Try.f52) [true, true, true, true, true, false, false]).wp Try.prog Q a w := by
  rw [xpLoop_eq]
  obtain ⟨_, hl0, _⟩ := S.km
  have hs1 := hl0.ok.size_pos
  have hs2 := hl0.ok.size_le
  refine wp_loop (fun a' w' => ∃ j, XPI a wb hk F.m prk info K j a' w') (fun a' _ => 255 - (intOf (G a' 11)).toNat) ⟨0, h, by simp [Same], by omega, by intro i hi; omega, by simpa using g11, F, vo, _, rfl, g9, g12, S⟩ ?_
  rintro a1 w1 ⟨j, I⟩
  obtain ⟨F1, vo1, vb1, hm, e9, e12, X⟩ := I.st
  by_cases hj : j * hk.size < K
  · have hj2 : j < 255 := by
      rcases Nat.lt_or_ge j 255 with h | h
      · exact h
      · have := Nat.mul_le_mul_right hk.size h; omega
    refine xpRound a1 wb w1 I.frm _ hk F1 prk info fs K j vo1 vb1 X.out hj hK hfs hfl ((I.same.get 2 rfl).trans g2) ((I.same.get 3 rfl).trans g3) e9 (by rw [hm]; exact (I.same.get 10 rfl).trans g10) I.g11 e12 ?_
    rintro a' w' ⟨p1, p2, p3, F2, vo2, vb2, q1, q2, q3, q4⟩
    simp only [Exit.then]
    refine ⟨⟨j + 1, p1, ?_, by omega, by intro i hi; have : i = j := by omega
                                         subst this; exact hj, p3, F2, vo2, vb2, q1.trans hm, q2, q3, q4⟩, ?_⟩
    · have s := I.same
      simp only [Same] at s p2 ⊢
      simp only [p2, s, and_self]
    · rw [p3, I.g11]; simp [intOf]; omega
  · have S1 := X.out
    have hlen : ((expAll hk prk info j).take K).length = K := by rw [List.length_take, expAll_length]; omega
    obtain ⟨op, oc, hvo⟩ := own_ex S1.out
    rw [hlen] at hvo
    refine xpLeave a1 w1 I.frm _ K K op oc (Nat.le_refl _) ((I.same.get 3 rfl).trans g3) (e9.trans hvo) ?_
    rintro a' w' ⟨p1, p2, rfl⟩
    simp only [Exit.then]
    refine hQ _ _ ⟨p1, vo1, (p2.get 9 rfl).trans e9, ?_, S1.tch, S1.newo⟩
    have hexp : (expAll hk prk info j).take K = expand hk prk info K := by
      have h1 : (K + hk.size - 1) / hk.size ≤ j := by
        have hle : K + hk.size - 1 < (j + 1) * hk.size := by rw [Nat.add_mul]; omega
        have := Nat.div_lt_of_lt_mul (by rw [Nat.mul_comm] at hle; exact hle)
        omega
      unfold expand
      rw [← expAll_take hk prk info _ _ h1, List.take_take]
      congr 1
      have := up_le K hk.size hs1
      omega
    rw [← hexp]; exact S1.out
end Go.Proofs.Ytgomodhhomekpaa
