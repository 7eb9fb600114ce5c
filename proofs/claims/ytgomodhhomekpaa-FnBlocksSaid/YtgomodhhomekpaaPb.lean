/-
  pbkdf2.Key: the loop of rounds.
-/
import Derived.Test.YtgomodhhomekpaaM6
import Derived.Test.YtgomodhhomekpaaPa
namespace Go.Proofs.Ytgomodhhomekpaa
open Go.RowKit Pu Ar
/-- Where the loops stand: the key so far, U, the block's number, the HMAC. -/
structure PKS (wb w : World) (hk : Pu.HK) (F : HF) (pw X U : By) (vo vu : Value) (bb : Nat) : Prop where
  km : ∃ l, KM w hk F pw l
  out : Own w vo X
  u : Own w vu U
  offo : Off F.all vo
  offu : Off F.all vu
  ob : ∀ b, vo.ownBlock = some b → vu.ownBlock ≠ some b
  newF : NewF wb F
  newo : ∀ b, vo.ownBlock = some b → wb.heap.size ≤ b
  newu : ∀ b, vu.ownBlock = some b → wb.heap.size ≤ b
  tch : Tch [] wb w
  buf : ∃ bs : By, bs.length = 4 ∧ Row w bb 110 (bs.map vb)
  offb : bb ∉ F.all
  obo : vo.ownBlock ≠ some bb
  obu : vu.ownBlock ≠ some bb
  newb : wb.heap.size ≤ bb
theorem PKS.mac {wb w w' : World} {hk : Pu.HK} {F F' : HF} {pw X U l' : By} {vo vu : Value} {bb : Nat} (S : PKS wb w hk F pw X U vo vu bb) (T : Tch [F.m, F.bo, F.so, F.bi, F.si] w w') (M : KM w' hk F' pw l') (N : ∀ b ∈ F'.all, b ∈ F.all ∨ w.heap.size ≤ b) :
    PKS wb w' hk F' pw X U vo vu bb := by
  obtain ⟨l0, hl0⟩ := S.km
  have B : wb.heap.size ≤ F.m ∧ wb.heap.size ≤ F.bo ∧ wb.heap.size ≤ F.so ∧ wb.heap.size ≤ F.bi ∧ wb.heap.size ≤ F.si := S.newF.blk hl0
  have sub : ∀ v : Value, Off F.all v → Off [F.m, F.bo, F.so, F.bi, F.si] v := fun v h => off_sub h (by simp +contextual [HF.all])
  have ofn : ∀ v : Value, Off F.all v → (∀ b, v.ownBlock = some b → b < w.heap.size) → Off F'.all v := by
    intro v h h2 b hb hm2
    rcases N b hm2 with h3 | h3
    · exact h b hb h3
    · have := h2 b hb; omega
  obtain ⟨bs, hb1, hb2⟩ := S.buf
  have hbb : bb ∉ [F.m, F.bo, F.so, F.bi, F.si] := fun h => S.offb (by simp only [List.mem_cons, List.not_mem_nil, or_false] at h; simp only [HF.all, List.mem_cons]; omega)
  refine ⟨⟨l', M⟩, S.out.tch T (sub _ S.offo), S.u.tch T (sub _ S.offu), ofn _ S.offo S.out.lt, ofn _ S.offu S.u.lt, S.ob, ?_, S.newo, S.newu, tchNew S.tch T (by intro b hb; simp only [List.mem_cons, List.not_mem_nil, or_false] at hb; omega), ⟨bs, hb1, hb2.tch T hbb⟩, ?_, S.obo, S.obu, S.newb⟩
  · intro b hb
    rcases N b hb with h | h
    · exact S.newF b h
    · right; have := S.tch.size; omega
  · intro hm
    rcases N bb hm with h | h
    · exact S.offb h
    · have := hb2.lt; omega
/-- A sum into U. -/
theorem PKS.sumU {wb w w' : World} {hk : Pu.HK} {F : HF} {pw X U U' l' : By} {vo vu vu' : Value} {bb : Nat} (S : PKS wb w hk F pw X U vo vu bb) (O : Own w' vu' U') (M : KM w' hk F pw l') (T : Tch (F.bo :: F.so :: vu.ownBlock.toList) w w') (of : Off F.all vu') (nb : vu'.ownBlock = vu.ownBlock ∨ ∃ g, vu'.ownBlock = some g ∧ w.heap.size ≤ g) :
    PKS wb w' hk F pw X U' vo vu' bb := by
  obtain ⟨l0, hl0⟩ := S.km
  have B : wb.heap.size ≤ F.m ∧ wb.heap.size ≤ F.bo ∧ wb.heap.size ≤ F.so ∧ wb.heap.size ≤ F.bi ∧ wb.heap.size ≤ F.si := S.newF.blk hl0
  obtain ⟨bs, hb1, hb2⟩ := S.buf
  have hbb : bb ∉ F.bo :: F.so :: vu.ownBlock.toList := by
    intro h
    simp only [List.mem_cons, Option.mem_toList] at h
    rcases h with h | h | h
    · exact S.offb (by rw [h]; simp [HF.all])
    · exact S.offb (by rw [h]; simp [HF.all])
    · exact S.obu h
  have hoo : Off (F.bo :: F.so :: vu.ownBlock.toList) vo := by
    intro b hb h
    simp only [List.mem_cons, Option.mem_toList] at h
    rcases h with h | h | h
    · exact S.offo b hb (by rw [h]; simp [HF.all])
    · exact S.offo b hb (by rw [h]; simp [HF.all])
    · exact S.ob b hb h
  refine ⟨⟨l', M⟩, S.out.tch T hoo, O, S.offo, of, ?_, S.newF, S.newo, ?_, tchNew S.tch T ?_, ⟨bs, hb1, hb2.tch T hbb⟩, S.offb, S.obo, ?_, S.newb⟩
  · intro b hb e
    rcases nb with h | ⟨g, h, hg⟩
    · rw [h] at e; exact S.ob b hb e
    · rw [h] at e; simp only [Option.some.injEq] at e; have := S.out.lt b hb; omega
  · intro b hb
    rcases nb with h | ⟨g, h, hg⟩
    · rw [h] at hb; exact S.newu b hb
    · rw [h] at hb; simp only [Option.some.injEq] at hb; have := S.tch.size; omega
  · intro b hb
    simp only [List.mem_cons, Option.mem_toList] at hb
    rcases hb with h | h | h
    · omega
    · omega
    · exact S.newu b h
  · rcases nb with h | ⟨g, h, hg⟩
    · rw [h]; exact S.obu
    · rw [h]; intro e; simp only [Option.some.injEq] at e; have := hb2.lt; omega
/-- A sum behind the key so far. -/
theorem PKS.sumO {wb w w' : World} {hk : Pu.HK} {F : HF} {pw X X' U l' : By} {vo vo' vu : Value} {bb : Nat} (S : PKS wb w hk F pw X U vo vu bb) (O : Own w' vo' X') (M : KM w' hk F pw l') (T : Tch (F.bo :: F.so :: vo.ownBlock.toList) w w') (of : Off F.all vo') (nb : vo'.ownBlock = vo.ownBlock ∨ ∃ g, vo'.ownBlock = some g ∧ w.heap.size ≤ g) :
    PKS wb w' hk F pw X' U vo' vu bb := by
  obtain ⟨l0, hl0⟩ := S.km
  have B : wb.heap.size ≤ F.m ∧ wb.heap.size ≤ F.bo ∧ wb.heap.size ≤ F.so ∧ wb.heap.size ≤ F.bi ∧ wb.heap.size ≤ F.si := S.newF.blk hl0
  obtain ⟨bs, hb1, hb2⟩ := S.buf
  have hbb : bb ∉ F.bo :: F.so :: vo.ownBlock.toList := by
    intro h
    simp only [List.mem_cons, Option.mem_toList] at h
    rcases h with h | h | h
    · exact S.offb (by rw [h]; simp [HF.all])
    · exact S.offb (by rw [h]; simp [HF.all])
    · exact S.obo h
  have hoo : Off (F.bo :: F.so :: vo.ownBlock.toList) vu := by
    intro b hb h
    simp only [List.mem_cons, Option.mem_toList] at h
    rcases h with h | h | h
    · exact S.offu b hb (by rw [h]; simp [HF.all])
    · exact S.offu b hb (by rw [h]; simp [HF.all])
    · exact S.ob b h hb
  refine ⟨⟨l', M⟩, O, S.u.tch T hoo, of, S.offu, ?_, S.newF, ?_, S.newu, tchNew S.tch T ?_, ⟨bs, hb1, hb2.tch T hbb⟩, S.offb, ?_, S.obu, S.newb⟩
  · intro b hb e
    rcases nb with h | ⟨g, h, hg⟩
    · rw [h] at hb; exact S.ob b hb e
    · rw [h] at hb; simp only [Option.some.injEq] at hb; have := S.u.lt b e; omega
  · intro b hb
    rcases nb with h | ⟨g, h, hg⟩
    · rw [h] at hb; exact S.newo b hb
    · rw [h] at hb; simp only [Option.some.injEq] at hb; have := S.tch.size; omega
  · intro b hb
    simp only [List.mem_cons, Option.mem_toList] at hb
    rcases hb with h | h | h
    · omega
    · omega
    · exact S.newo b h
  · rcases nb with h | ⟨g, h, hg⟩
    · rw [h]; exact S.obo
    · rw [h]; intro e; simp only [Option.some.injEq] at e; have := hb2.lt; omega
/-- The key's own row is written. -/
theorem PKS.setO {wb w w' : World} {hk : Pu.HK} {F : HF} {pw X X' U : By} {vu : Value} {bb g c n : Nat} (S : PKS wb w hk F pw X U (.slice (some ⟨g, 0, none⟩) n c) vu bb) (O : OwnC w' g c X') (hn : n = X'.length) (T : Tch [g] w w') :
    PKS wb w' hk F pw X' U (.slice (some ⟨g, 0, none⟩) n c) vu bb := by
  obtain ⟨l0, hl0⟩ := S.km
  have hg : ∀ b ∈ F.all, b ∉ [g] := by
    intro b hb h
    rw [List.mem_singleton.1 h] at hb
    exact S.offo g rfl hb
  obtain ⟨bs, hb1, hb2⟩ := S.buf
  have hbg : bb ≠ g := fun e => S.obo (by rw [e]; rfl)
  refine ⟨⟨l0, hl0.tch T hg⟩, by rw [hn]; exact O.own, S.u.tch T ?_, S.offo, S.offu, S.ob, S.newF, S.newo, S.newu, tchNew S.tch T ?_, ⟨bs, hb1, hb2.tch T (by simpa using hbg)⟩, S.offb, S.obo, S.obu, S.newb⟩
  · intro b hb h
    rw [List.mem_singleton.1 h] at hb
    exact S.ob g rfl hb
  · intro b hb
    rw [List.mem_singleton.1 hb]
    exact S.newo g rfl
def PNR (a : Act) (wb : World) (hk : Pu.HK) (m : Nat) (pw X U : By) (vo : Value) (bb : Nat) (a' : Act) (w' : World) : Prop :=
  Frm 126 a' ∧ Same [2, 3, 4, 12, 13, 14, 15, 16, 18, 19, 20] a a' ∧ ∃ F' vu', F'.m = m ∧ G a' 17 = vu' ∧ Hid (PKS wb w' hk F' pw X U vo vu' bb)
set_option maxHeartbeats 1000000 in
set_option maxRecDepth 100000 in
theorem pnBody (a : Act) (wb w : World) (h : Frm 126 a) (Q : Exit → Act → World → Prop) (hk : Pu.HK) (F : HF) (pw A T U : By) (vu : Value) (bb g c n Z off tc : Nat)
    (S : PKS wb w hk F pw (A ++ T) U (.slice (some ⟨g, 0, none⟩) n c) vu bb) (hT : T.length = Z) (hU : U.length = Z) (hZ : hk.size = Z) (hoff : off = A.length)
    (g12 : G a 12 = .pointer (some ⟨F.m, 0, none⟩)) (g17 : G a 17 = vu) (g19 : G a 19 = .slice (some ⟨g, off, none⟩) Z tc)
    (hQ : ∀ a' w', PNR a wb hk F.m pw (A ++ xorBy T (mac hk pw U)) (mac hk pw U) (.slice (some ⟨g, 0, none⟩) n c) bb a' w' → Q .normal a' w') :
    (part (bodyOf Try.f58) [true, true, true, true, true, true, true, true, true, true, false, true, false, false, true, false, false, true, true, true, true, true, true, true, true, true, true, true, false, false, true, false, false]).wp Try.prog Q a w := by
  obtain ⟨l0, hl0⟩ := S.km
  have hs1 := hl0.ok.size_pos
  have hs2 := hl0.ok.size_le
  rw [hZ] at hs1 hs2
  have HZ := Lib.hid hZ
  have HS := Lib.hid S
  have HM := Lib.hid hl0
  have HT := Lib.hid hT
  have HU := Lib.hid hU
  have HS1 := Lib.hid hs1
  have HS2 := Lib.hid hs2
  have HOFF := Lib.hid hoff
  conv => arg 2; whnf
  rw [lit126 a h]
  have E12 := Lib.hid g12
  have E17 := Lib.hid g17
  have E19 := Lib.hid g19
  simp only [g12, g17, g19]
  clear h g12 g17 g19 S hl0 hT hU hZ hs1 hs2 hoff
  refine wp_seq_k (fun K0 k0 => ?_)
  have J0 := Lib.hid k0
  clear k0
  go_wp2_with (fail)
  refine (kmReset hk F pw l0 w HM.out).mono ?_
  rintro e w1 ⟨rfl, F1, h1⟩
  have S1 : Hid (PKS wb w1 hk F1 pw (A ++ T) U (.slice (some ⟨g, 0, none⟩) n c) vu bb ∧ KM w1 hk F1 pw []) := ⟨HS.out.mac h1.out.2.2.1 h1.out.1 h1.out.2.2.2, h1.out.1⟩
  have EM : Hid (F.m = F1.m) := h1.out.2.1.symm
  clear h1 HM HS
  go_wp2
  refine J0.out _ _ (wp_seq_k (fun K1 k1 => ?_))
  have J1 := Lib.hid k1
  clear k1 J0
  rw [EM.out]
  go_wp2_with (fail)
  refine (kmWrite hk F1 pw [] U vu w1 S1.out.2 S1.out.1.u.rd S1.out.1.u.nm (off_sub S1.out.1.offu (by simp +contextual [HF.all])) (by have := HU.out; have := HS2.out; simp; omega)).mono ?_
  rintro e w2 ⟨rfl, h2⟩
  have S2 : Hid (PKS wb w2 hk F1 pw (A ++ T) U (.slice (some ⟨g, 0, none⟩) n c) vu bb ∧ KM w2 hk F1 pw U) := ⟨S1.out.1.mac (h2.out.2.mono (by simp +contextual)) h2.out.1 (fun b hb => .inl hb), h2.out.1⟩
  clear h2 S1
  go_wp2
  refine J1.out _ _ (wp_seq_k (fun K2 k2 => ?_))
  have J2 := Lib.hid k2
  clear k2 J1
  obtain ⟨z1, z2, hz⟩ := S2.out.1.u.zero
  obtain ⟨u0, hu0⟩ : ∃ u0, u0 = upto vu 0 := ⟨_, rfl⟩
  rw [← hu0] at z1 z2 hz
  clear hu0
  have Z1 := Lib.hid z1
  have Z2 := Lib.hid z2
  clear z1 z2
  go_wp2
  refine J2.out _ _ (wp_seq_k (fun K3 k3 => ?_))
  have J3 := Lib.hid k3
  clear k3 J2 hz
  go_wp2_with (fail)
  refine (kmSum hk F1 pw U [] u0 w2 S2.out.2 Z1.out (by intro b hb; rw [Z2.out] at hb; exact S2.out.1.offu b hb) (by have := HU.out; have := HS2.out; omega) (by simp)).mono ?_
  rintro e w3 ⟨v3, rfl, h3⟩
  have S3 : Hid (PKS wb w3 hk F1 pw (A ++ T) (mac hk pw U) (.slice (some ⟨g, 0, none⟩) n c) v3 bb) := by
    have t := h3.out.2.2.1
    have nb := h3.out.2.2.2.2
    rw [Z2.out] at t nb
    exact S2.out.1.sumU h3.out.1 h3.out.2.1 t h3.out.2.2.2.1 nb
  clear h3 S2 Z1 Z2
  obtain ⟨vp, vc, rfl⟩ := own_ex S3.out.u
  rw [mac_length, HZ.out] at S3 ⊢
  go_wp2
  refine J3.out _ _ (wp_seq_k (fun K4 k4 => ?_))
  have J4 := Lib.hid k4
  clear k4 J3
  go_wp2
  refine J4.out _ _ (wp_block ?_)
  have hne : A ++ T ≠ [] := by
    intro e
    have h := congrArg List.length e
    rw [List.length_append, HT.out] at h
    have := HS1.out
    simp at h
    omega
  have hoc : OwnC w3 g c (A ++ T) ∧ n = (A ++ T).length := by
    obtain ⟨g', c', e, ho⟩ := S3.out.out.c hne
    simp only [Value.slice.injEq, Option.some.injEq, Addr.mk.injEq, and_true] at e
    obtain ⟨rfl, rfl, rfl⟩ := e
    exact ⟨ho, rfl⟩
  have huo : Off [g] (.slice vp Z vc) := by
    intro b hb hm
    rw [List.mem_singleton.1 hm] at hb
    exact S3.out.ob g rfl hb
  have e12 := E12.out
  have e17 := E17.out
  have e19 := E19.out
  refine pxLoop _ w3 ⟨rfl, rfl⟩ _ g c Z off tc A T (mac hk pw U) _ hoc.1 HT.out (by rw [mac_length, HZ.out]) (by have := HS2.out; omega) HOFF.out S3.out.u.rd huo rfl rfl rfl rfl ?_
  rintro a' w' ⟨f, s, h4⟩
  refine hQ _ _ ⟨f, ?_, F1, _, EM.out.symm, s.get 17 rfl, S3.out.setO h4.out.1 (by rw [hoc.2, List.length_append, List.length_append]; simp [xorBy, mac_length, HZ.out, HT.out]) h4.out.2⟩
  exact ⟨s.get 2 rfl, s.get 3 rfl, s.get 4 rfl, (s.get 12 rfl).trans (by rw [e12, EM.out]; rfl), s.get 13 rfl, s.get 14 rfl, s.get 15 rfl, s.get 16 rfl, s.get 18 rfl, (s.get 19 rfl).trans e19.symm, s.get 20 rfl, trivial⟩
def PNX (a : Act) (w : World) (a' : Act) (w' : World) : Prop := Frm 126 a' ∧ Same [2, 3, 4, 12, 13, 14, 15, 16, 17, 18] a a' ∧ w' = w
set_option maxRecDepth 100000 in
theorem pnLeave (a : Act) (w : World) (h : Frm 126 a) (Q : Exit → Act → World → Prop) (i m : Nat) (hi : m < i) (g3 : G a 3 = .int .i64 ((m : Int) + 1)) (g20 : G a 20 = .int .i64 ((i : Int) + 1))
    (hQ : ∀ a' w', PNX a w a' w' → Q (.exit 2) a' w') :
    (part (bodyOf Try.f58) [true, true, true, true, true, true, true, true, true, true, false, true, false, false, true, false, false, true, true, true, true, true, true, true, true, true, true, true, false, false]).wp Try.prog Q a w := by
  have hii : ¬ ((i : Int) + 1 ≤ (m : Int) + 1) := by omega
  conv => arg 2; whnf
  rw [lit126 a h]
  have E3 := Lib.hid g3
  simp only [g3, g20]
  clear h g3 g20 hi
  go_wp2
  have e3 := E3.out
  exact ⟨⟨rfl, rfl⟩, ⟨rfl, e3.symm, rfl, rfl, rfl, rfl, rfl, rfl, rfl, rfl, trivial⟩, rfl⟩
def PNP (a : Act) (wb : World) (hk : Pu.HK) (m : Nat) (pw X U : By) (vo : Value) (bb i : Nat) (a' : Act) (w' : World) : Prop :=
  Frm 126 a' ∧ Same [2, 3, 4, 12, 13, 14, 15, 16, 18, 19] a a' ∧ G a' 20 = .int .i64 ((i : Int) + 1) ∧ ∃ F' vu', F'.m = m ∧ G a' 17 = vu' ∧ Hid (PKS wb w' hk F' pw X U vo vu' bb)
set_option maxHeartbeats 1000000 in
set_option maxRecDepth 100000 in
theorem pnRound (a : Act) (wb w : World) (h : Frm 126 a) (Q : Exit → Act → World → Prop) (hk : Pu.HK) (F : HF) (pw A T U : By) (vu : Value) (bb g c n Z off tc i m : Nat)
    (S : PKS wb w hk F pw (A ++ T) U (.slice (some ⟨g, 0, none⟩) n c) vu bb) (hT : T.length = Z) (hU : U.length = Z) (hZ : hk.size = Z) (hoff : off = A.length) (hi : i ≤ m) (hm : m ≤ 100000)
    (g3 : G a 3 = .int .i64 ((m : Int) + 1)) (g12 : G a 12 = .pointer (some ⟨F.m, 0, none⟩)) (g17 : G a 17 = vu) (g19 : G a 19 = .slice (some ⟨g, off, none⟩) Z tc) (g20 : G a 20 = .int .i64 ((i : Int) + 1))
    (hQ : ∀ a' w', PNP a wb hk F.m pw (A ++ xorBy T (mac hk pw U)) (mac hk pw U) (.slice (some ⟨g, 0, none⟩) n c) bb (i + 1) a' w' → Q .normal a' w') :
    (part (bodyOf Try.f58) [true, true, true, true, true, true, true, true, true, true, false, true, false, false, true, false, false, true, true, true, true, true, true, true, true, true, true, true, false, false]).wp Try.prog Q a w := by
  have hii : (i : Int) + 1 ≤ (m : Int) + 1 := by omega
  have hmm : (m : Int) ≤ 100000 := by omega
  have HS := Lib.hid S
  have HT := Lib.hid hT
  have HU := Lib.hid hU
  have HZ := Lib.hid hZ
  have HOFF := Lib.hid hoff
  conv => arg 2; whnf
  rw [lit126 a h]
  have E3 := Lib.hid g3
  have E12 := Lib.hid g12
  have E17 := Lib.hid g17
  have E19 := Lib.hid g19
  have E20 := Lib.hid g20
  simp only [g3, g12, g17, g19, g20]
  clear h g3 g12 g17 g19 g20 S hT hU hZ hoff hi hm
  refine wp_seq_k (fun K0 k0 => ?_)
  have J0 := Lib.hid k0
  clear k0
  go_wp2
  refine J0.out _ _ (wp_seq_k (fun K1 k1 => ?_))
  have J1 := Lib.hid k1
  clear k1 J0
  refine wp_block ?_
  have e3 := E3.out
  have e12 := E12.out
  have e19 := E19.out
  refine pnBody _ wb w ⟨rfl, rfl⟩ _ hk F pw A T U vu bb g c n Z off tc HS.out HT.out HU.out HZ.out HOFF.out rfl rfl rfl ?_
  rintro a' w' ⟨f, s, F', vu', hm', g17', h4⟩
  refine J1.out _ _ ?_
  have s20 : G a' 20 = .int .i64 ((i : Int) + 1) := s.get 20 rfl
  have HSM : Hid (Same [2, 3, 4, 12, 13, 14, 15, 16, 18, 19] a a') := ⟨s.get 2 rfl, (s.get 3 rfl).trans e3.symm, s.get 4 rfl, (s.get 12 rfl).trans e12.symm, s.get 13 rfl, s.get 14 rfl, s.get 15 rfl, s.get 16 rfl, s.get 18 rfl, (s.get 19 rfl).trans e19.symm, trivial⟩
  rw [lit126 a' f]
  have E17' := Lib.hid g17'
  simp only [s20]
  clear f s s20 g17' e3 e12 e19
  go_wp2
  have e17' := E17'.out
  exact ⟨⟨rfl, rfl⟩, HSM.out, by push_cast; rfl, F', vu', hm', e17', h4⟩
theorem pnLoop_eq : part (bodyOf Try.f58) [true, true, true, true, true, true, true, true, true, true, false, true, false, false, true, false, false, true, true, true, true, true, true, true, true, true, true, true, false] = .loop (part (bodyOf Try.f58) [true, true, true, true, true, true, true, true, true, true, false, true, false, false, true, false, false, true, true, true, true, true, true, true, true, true, true, true, false, false]) := by kernel_rfl
structure PNI (a0 : Act) (wb : World) (hk : Pu.HK) (m : Nat) (pw salt A : By) (bi : Nat) (vo : Value) (bb M i : Nat) (a : Act) (w : World) : Prop where
  frm : Frm 126 a
  same : Same [2, 3, 4, 12, 13, 14, 15, 16, 18, 19] a0 a
  le : i ≤ M
  g20 : G a 20 = .int .i64 (((i + 1 : Nat) : Int) + 1)
  st : ∃ F vu, F.m = m ∧ G a 17 = vu ∧ Hid (PKS wb w hk F pw (A ++ derF hk pw salt bi i) (derU hk pw salt bi i) vo vu bb)
def PNE (a : Act) (wb : World) (hk : Pu.HK) (m : Nat) (pw X U : By) (vo : Value) (bb : Nat) (a' : Act) (w' : World) : Prop :=
  Frm 126 a' ∧ Same [2, 3, 4, 12, 13, 14, 15, 16, 18] a a' ∧ ∃ F' vu', F'.m = m ∧ G a' 17 = vu' ∧ Hid (PKS wb w' hk F' pw X U vo vu' bb)
theorem pnLoop (a : Act) (wb w : World) (h : Frm 126 a) (Q : Exit → Act → World → Prop) (hk : Pu.HK) (F : HF) (pw salt A : By) (bi : Nat) (vu : Value) (bb g c n Z off tc M : Nat)
    (S : PKS wb w hk F pw (A ++ derF hk pw salt bi 0) (derU hk pw salt bi 0) (.slice (some ⟨g, 0, none⟩) n c) vu bb) (hZ : hk.size = Z) (hoff : off = A.length) (hM : M ≤ 100000)
    (g3 : G a 3 = .int .i64 ((M : Int) + 1)) (g12 : G a 12 = .pointer (some ⟨F.m, 0, none⟩)) (g17 : G a 17 = vu) (g19 : G a 19 = .slice (some ⟨g, off, none⟩) Z tc) (g20 : G a 20 = .int .i64 2)
    (hQ : ∀ a' w', PNE a wb hk F.m pw (A ++ derF hk pw salt bi M) (derU hk pw salt bi M) (.slice (some ⟨g, 0, none⟩) n c) bb a' w' → Q (.exit 2) a' w') :
    (part (bodyOf Try.f58) [true, true, true, true, true, true, true, true, true, true, false, true, false, false, true, false, false, true, true, true, true, true, true, true, true, true, true, true, false]).wp Try.prog Q a w := by
  rw [pnLoop_eq]
  refine wp_loop (fun a' w' => ∃ i, PNI a wb hk F.m pw salt A bi (.slice (some ⟨g, 0, none⟩) n c) bb M i a' w') (fun a' _ => M + 2 - (intOf (G a' 20)).toNat) ⟨0, h, by simp [Same], by omega, g20, F, vu, rfl, g17, S⟩ ?_
  rintro a1 w1 ⟨i, I⟩
  obtain ⟨F1, vu1, hm, e17, X⟩ := I.st
  by_cases hi : i < M
  · refine pnRound a1 wb w1 I.frm _ hk F1 pw A _ _ vu1 bb g c n Z off tc (i + 1) M X.out (by rw [derF_length, hZ]) (by rw [derU_length, hZ]) hZ hoff (by omega) hM ((I.same.get 3 rfl).trans g3) (by rw [hm]; exact (I.same.get 12 rfl).trans g12) e17 ((I.same.get 19 rfl).trans g19) I.g20 ?_
    rintro a' w' ⟨p1, p2, p3, F2, vu2, q1, q2, q3⟩
    simp only [Exit.then]
    refine ⟨⟨i + 1, p1, ?_, by omega, p3, F2, vu2, q1.trans hm, q2, q3⟩, ?_⟩
    · have s := I.same
      simp only [Same] at s p2 ⊢
      simp only [p2, s, and_self]
    · rw [p3, I.g20]; simp [intOf]; omega
  · have hi' : i = M := by have := I.le; omega
    subst hi'
    refine pnLeave a1 w1 I.frm _ (i + 1) i (by omega) ((I.same.get 3 rfl).trans g3) I.g20 ?_
    rintro a' w' ⟨p1, p2, rfl⟩
    simp only [Exit.then]
    refine hQ _ _ ⟨p1, ?_, F1, vu1, hm, (p2.get 17 rfl).trans e17, X⟩
    have s := I.same
    simp only [Same] at s p2 ⊢
    simp only [p2, s, and_self]
end Go.Proofs.Ytgomodhhomekpaa
