/-
  impl.Steps.
-/
import Derived.Test.YtgomodhhomekpaaM6
import Derived.Test.YtgomodhhomekpaaSq
namespace Go.Proofs.Ytgomodhhomekpaa
open Go.RowKit Pu Ar
set_option maxRecDepth 100000 in
theorem lit45 (a : Act) (h : Frm 45 a) : a = ⟨#[G a 0, G a 1, G a 2, G a 3, G a 4, G a 5, G a 6, G a 7, G a 8, G a 9, G a 10, G a 11, G a 12, G a 13, G a 14, G a 15, G a 16, G a 17, G a 18, G a 19, G a 20, G a 21, G a 22, G a 23, G a 24, G a 25, G a 26, G a 27, G a 28, G a 29, G a 30, G a 31, G a 32, G a 33, G a 34, G a 35, G a 36, G a 37, G a 38, G a 39, G a 40, G a 41, G a 42, G a 43, G a 44], []⟩ := lit_of a h
theorem NewF.blk' {wb w : World} {hk : Pu.HK} {F : HF} {key l : By} (h : ∀ b ∈ F.all, b = 0 ∨ wb.heap.size ≤ b) (k : KM w hk F key l) : wb.heap.size ≤ F.m ∧ wb.heap.size ≤ F.bo ∧ wb.heap.size ≤ F.so ∧ wb.heap.size ≤ F.bi ∧ wb.heap.size ≤ F.si := by
  obtain ⟨_, _, M⟩ := k.at
  have k1 := M.k1
  refine ⟨?_, ?_, ?_, ?_, ?_⟩
  · rcases h F.m (by simp [HF.all]) with h | h
    · exact absurd h.symm k1.1
    · exact h
  · rcases h F.bo (by simp [HF.all]) with h | h
    · exact absurd h.symm k1.2.1
    · exact h
  · rcases h F.so (by simp [HF.all]) with h | h
    · exact absurd h.symm k1.2.2.1
    · exact h
  · rcases h F.bi (by simp [HF.all]) with h | h
    · exact absurd h.symm k1.2.2.2.1
    · exact h
  · rcases h F.si (by simp [HF.all]) with h | h
    · exact absurd h.symm k1.2.2.2.2
    · exact h
/-- Where the steps stand: what has been taken in, the sums. -/
structure SPS (wb w : World) (hk : Pu.HK) (F : HF) (key data : By) (vo : Value) (vs : List Value) (rs : List By) : Prop where
  km : KM w hk F key data
  out : OwnS w vo vs
  len : vs.length = rs.length
  rd : ∀ (i : Nat) (v : Value) (r : By), vs[i]? = some v → rs[i]? = some r → Rd w v r
  offv : ∀ v ∈ vs, Off F.all v
  ltv : ∀ v ∈ vs, ∀ b, v.ownBlock = some b → b < w.heap.size
  obv : ∀ v ∈ vs, ∀ b, v.ownBlock = some b → vo.ownBlock ≠ some b
  offo : Off F.all vo
  newF : ∀ b ∈ F.all, b = 0 ∨ wb.heap.size ≤ b
  newo : ∀ b, vo.ownBlock = some b → wb.heap.size ≤ b
  tch : Tch [] wb w
theorem SPS.mac {wb w w' : World} {hk : Pu.HK} {F F' : HF} {key data data' : By} {vo : Value} {vs : List Value} {rs : List By} (S : SPS wb w hk F key data vo vs rs) (T : Tch [F.m, F.bo, F.so, F.bi, F.si] w w') (M : KM w' hk F' key data') (N : ∀ b ∈ F'.all, b ∈ F.all ∨ w.heap.size ≤ b) :
    SPS wb w' hk F' key data' vo vs rs := by
  have B := NewF.blk' S.newF S.km
  have sub : ∀ v : Value, Off F.all v → Off [F.m, F.bo, F.so, F.bi, F.si] v := fun v h => off_sub h (by simp +contextual [HF.all])
  have ofn : ∀ v : Value, Off F.all v → (∀ b, v.ownBlock = some b → b < w.heap.size) → Off F'.all v := by
    intro v h h2 b hb hm2
    rcases N b hm2 with h3 | h3
    · exact h b hb h3
    · have := h2 b hb; omega
  refine ⟨M, S.out.tch T (sub _ S.offo), S.len, ?_, ?_, ?_, S.obv, ofn _ S.offo S.out.lt, ?_, S.newo, S.tch.new T (by intro b hb; simp only [List.mem_cons, List.not_mem_nil, or_false] at hb; right; omega)⟩
  · intro i v r h1 h2
    exact (S.rd i v r h1 h2).tch T (sub _ (S.offv v (List.mem_of_getElem? h1)))
  · intro v hv; exact ofn _ (S.offv v hv) (S.ltv v hv)
  · intro v hv b hb; exact Nat.lt_of_lt_of_le (S.ltv v hv b hb) T.size
  · intro b hb
    rcases N b hb with h | h
    · exact S.newF b h
    · right; have := S.tch.size; omega
theorem SPS.tchNil {wb w w' : World} {hk : Pu.HK} {F : HF} {key data : By} {vo : Value} {vs : List Value} {rs : List By} (S : SPS wb w hk F key data vo vs rs) (T : Tch [] w w') : SPS wb w' hk F key data vo vs rs :=
  S.mac (T.mono (by simp)) (S.km.tchNil T) (fun b hb => .inl hb)
/-- A sum is put behind the others. -/
theorem SPS.push {wb w w' : World} {hk : Pu.HK} {F : HF} {key data r : By} {vo vo' x : Value} {vs : List Value} {rs : List By} (S : SPS wb w hk F key data vo vs rs) (O : OwnS w' vo' (vs ++ [x])) (T : Tch vo.ownBlock.toList w w') (nb : vo'.ownBlock = vo.ownBlock ∨ ∃ g, vo'.ownBlock = some g ∧ w.heap.size ≤ g)
    (hx : Rd w x r) (hxf : Off F.all x) (hxl : ∀ b, x.ownBlock = some b → b < w.heap.size) (hxo : ∀ b, x.ownBlock = some b → vo.ownBlock ≠ some b) : SPS wb w' hk F key data vo' (vs ++ [x]) (rs ++ [r]) := by
  have hF : ∀ b ∈ F.all, b ∉ vo.ownBlock.toList := by
    intro b hb hm
    simp only [Option.mem_toList] at hm
    exact S.offo b hm hb
  have hv : ∀ v : Value, (∀ b, v.ownBlock = some b → vo.ownBlock ≠ some b) → Off vo.ownBlock.toList v := by
    intro v h b hb hm
    simp only [Option.mem_toList] at hm
    exact h b hb hm
  have hn : ∀ v : Value, (∀ b, v.ownBlock = some b → b < w.heap.size) → (∀ b, v.ownBlock = some b → vo.ownBlock ≠ some b) → ∀ b, v.ownBlock = some b → vo'.ownBlock ≠ some b := by
    intro v h1 h2 b hb e
    rcases nb with h | ⟨g, h, hg⟩
    · rw [h] at e; exact h2 b hb e
    · rw [h] at e; simp only [Option.some.injEq] at e; have := h1 b hb; omega
  refine ⟨S.km.tch T hF, O, by rw [List.length_append, List.length_append, S.len]; rfl, ?_, ?_, ?_, ?_, ?_, S.newF, ?_, S.tch.new T (by intro b hb; right; exact S.newo b (by simpa using hb))⟩
  · intro i v r' h1 h2
    by_cases hi : i < vs.length
    · rw [List.getElem?_append_left hi] at h1
      rw [List.getElem?_append_left (by rw [← S.len]; exact hi)] at h2
      exact (S.rd i v r' h1 h2).tch T (hv v (S.obv v (List.mem_of_getElem? h1)))
    · rw [List.getElem?_append_right (by omega)] at h1
      rw [List.getElem?_append_right (by rw [← S.len]; omega)] at h2
      have h0 : i - vs.length = 0 := by
        rcases Nat.eq_zero_or_pos (i - vs.length) with h | h
        · exact h
        · rw [List.getElem?_eq_none (by simp; omega)] at h1; cases h1
      rw [h0] at h1
      rw [← S.len, h0] at h2
      simp at h1 h2
      subst h1; subst h2
      exact hx.tch T (hv _ hxo)
  · intro v h; simp only [List.mem_append, List.mem_singleton] at h; rcases h with h | rfl
    · exact S.offv v h
    · exact hxf
  · intro v h b hb; simp only [List.mem_append, List.mem_singleton] at h; have := T.size; rcases h with h | rfl
    · have := S.ltv v h b hb; omega
    · have := hxl b hb; omega
  · intro v h; simp only [List.mem_append, List.mem_singleton] at h; rcases h with h | rfl
    · exact hn v (S.ltv v h) (S.obv v h)
    · exact hn _ hxl hxo
  · rcases nb with h | ⟨g, h, hg⟩
    · exact fun b hb => S.offo b (by rw [← h]; exact hb)
    · intro b hb hm
      rw [h] at hb
      simp only [Option.some.injEq] at hb
      have := S.km.lt b hm
      omega
  · rcases nb with h | ⟨g, h, hg⟩
    · intro b hb; rw [h] at hb; exact S.newo b hb
    · intro b hb; rw [h] at hb; simp only [Option.some.injEq] at hb; have := S.tch.size; omega
/-- One step. -/
def stp (hk : Pu.HK) (key : By) (st : By × List By) (s : Int × By) : By × List By :=
  if s.1 = 0 then (st.1 ++ s.2, st.2) else if s.1 = 1 then (st.1, st.2 ++ [s.2 ++ mac hk key st.1]) else ([], st.2)
def SAP (a : Act) (wb : World) (hk : Pu.HK) (m : Nat) (key : By) (st : By × List By) (i : Nat) (a' : Act) (w' : World) : Prop :=
  Frm 45 a' ∧ Same [7, 14, 15] a a' ∧ G a' 16 = .int .i64 ((i : Int) + 1) ∧ ∃ F' vo' vs', F'.m = m ∧ G a' 8 = vo' ∧ Hid (SPS wb w' hk F' key st.1 vo' vs' st.2)
set_option maxHeartbeats 1000000 in
set_option maxRecDepth 100000 in
theorem saRound (a : Act) (wb w : World) (h : Frm 45 a) (Q : Exit → Act → World → Prop) (hk : Pu.HK) (F : HF) (key data x : By) (rs : List By) (vo u : Value) (vs : List Value) (b i n cap : Nat) (kd : Int)
    (S : SPS wb w hk F key data vo vs rs) (hi : i < n) (hn : n ≤ 1000) (c0 : w.cell? ⟨b, i * 2, none⟩ = some (.int .i64 kd)) (c1 : w.cell? ⟨b, i * 2 + 1, none⟩ = some u) (hx : Rd w u x) (hkd : kd = 0 ∨ kd = 1 ∨ kd = 2)
    (hdl : data.length ≤ 2147483647) (hxl : x.length ≤ 2147483647) (hrs : rs.length ≤ 1000)
    (g7 : G a 7 = .pointer (some ⟨F.m, 0, none⟩)) (g8 : G a 8 = vo) (g14 : G a 14 = .slice (some ⟨b, 0, none⟩) n cap) (g15 : G a 15 = .int .i64 (n : Int)) (g16 : G a 16 = .int .i64 (i : Int))
    (hQ : ∀ a' w', SAP a wb hk F.m key (stp hk key (data, rs) (kd, x)) i a' w' → Q .normal a' w') :
    (part (bodyOf Try.f38) [true, true, true, false, true, false, false]).wp Try.prog Q a w := by
  have hii : (i : Int) < (n : Int) := by omega
  have hmm : (n : Int) ≤ 1000 := by omega
  have HS := Lib.hid S
  have HX := Lib.hid hx
  have HDL := Lib.hid hdl
  have HXL := Lib.hid hxl
  have HRS := Lib.hid hrs
  obtain ⟨uq, uc, rfl⟩ := rd_ex hx
  conv => arg 2; whnf
  rw [lit45 a h]
  have E7 := Lib.hid g7
  have E14 := Lib.hid g14
  have E15 := Lib.hid g15
  simp only [g7, g8, g14, g15, g16]
  clear h g7 g8 g14 g15 g16 S hx hdl hxl hrs hi hn
  refine wp_seq_k (fun K0 k0 => ?_)
  have J0 := Lib.hid k0
  clear k0
  go_wp2
  refine J0.out _ _ ?_
  refine wp_seq_k (fun K9 k9 => ?_)
  have J9 := Lib.hid k9
  clear k9 J0
  go_wp2
  refine J9.out _ _ ?_
  refine wp_seq_k (fun K1 k1 => ?_)
  have J1 := Lib.hid k1
  clear k1 J9
  refine wp_block ?_
  refine wp_seq_k (fun K2 k2 => ?_)
  have J2 := Lib.hid k2
  clear k2
  go_wp2
  generalize hW1 : World.alloc _ _ = W1
  have R1 : Row W1 w.heap.size 47 [.int .i64 kd, .slice uq x.length uc] := by rw [← hW1]; exact Row.new w 47 _
  have T1 : Hid (Tch [] w W1) := by rw [← hW1]; exact Tch.alloc _ _
  have d0 : W1.cell? ⟨w.heap.size, 0, none⟩ = some (.int .i64 kd) := by rw [R1.cell]; rfl
  have d1 : W1.cell? ⟨w.heap.size, 1, none⟩ = some (.slice uq x.length uc) := by rw [R1.cell]; rfl
  obtain ⟨c, hc⟩ : ∃ c, c = w.heap.size := ⟨_, rfl⟩
  rw [← hc] at d0 d1 ⊢
  have S1 : Hid (SPS wb W1 hk F key data vo vs rs) := HS.out.tchNil T1.out
  have X1 : Hid (Rd W1 (.slice uq x.length uc) x) := HX.out.tchNil T1.out
  clear hW1 R1 hc c0 c1 HS HX T1
  refine J2.out _ _ ?_
  refine wp_seq_k (fun K3 k3 => ?_)
  have J3 := Lib.hid k3
  clear k3 J2
  go_wp2
  refine J3.out _ _ (wp_block ?_)
  have e7 := E7.out
  have e14 := E14.out
  have e15 := E15.out
  clear J3
  rcases hkd with rfl | rfl | rfl
  · go_wp2_with (fail)
    refine (iCopied _ x W1 X1.out (by have := HXL.out; omega)).mono ?_
    rintro e W2 ⟨v2, rfl, h2⟩
    have t2 := h2.out.1.tchNil
    have S2 := Lib.hid (S1.out.tchNil t2)
    have L2 : Hid (Off [F.bi, F.si] v2) := h2.out.1.fresh (by intro b hb; exact S1.out.km.lt b (by simp only [List.mem_cons, List.not_mem_nil, or_false] at hb; simp only [HF.all, List.mem_cons]; omega))
    go_wp2_with (fail)
    refine (kmWrite hk F key data x v2 W2 S2.out.km h2.out.1.1.rd h2.out.1.1.nm L2.out (by have := HDL.out; have := HXL.out; simp; omega)).mono ?_
    rintro e W3 ⟨rfl, h3⟩
    have S3 : Hid (SPS wb W3 hk F key (data ++ x) vo vs rs) := S2.out.mac (h3.out.2.mono (by simp +contextual)) h3.out.1 (fun b hb => .inl hb)
    clear h2 h3 S2 L2 d0 d1 t2
    go_wp2
    refine J1.out _ _ ?_
    go_wp2
    exact ⟨⟨rfl, rfl⟩, ⟨e7.symm, e14.symm, e15.symm, trivial⟩, rfl, F, vo, vs, rfl, rfl, S3⟩
  · go_wp2_with (fail)
    refine (iCopied _ x W1 X1.out (by have := HXL.out; omega)).mono ?_
    rintro e W2 ⟨v2, rfl, h2⟩
    have t2 := h2.out.1.tchNil
    have S2 := Lib.hid (S1.out.tchNil t2)
    have L2 : Hid (Off F.all v2) := h2.out.1.fresh (by intro b hb; exact S1.out.km.lt b hb)
    go_wp2_with (fail)
    refine (kmSum hk F key data x v2 W2 S2.out.km h2.out.1.1 L2.out (by have := HDL.out; omega) (by have := HXL.out; omega)).mono ?_
    rintro e W3 ⟨v3, rfl, h3⟩
    have v2n : ∀ b, v2.ownBlock = some b → W1.heap.size ≤ b := by
      intro b hb
      rcases h2.out.1.2.2 with h | ⟨g, h, hg⟩
      · rw [h] at hb; cases hb
      · rw [h] at hb; simp only [Option.some.injEq] at hb; omega
    have t3 : Tch [F.m, F.bo, F.so, F.bi, F.si] W1 W3 := (t2.mono (by simp)).new h3.out.2.2.1 (by
      intro i hi
      simp only [List.mem_cons, Option.mem_toList] at hi
      rcases hi with h | h | h
      · left; rw [h]; simp
      · left; rw [h]; simp
      · right; exact v2n i h)
    have S3 : Hid (SPS wb W3 hk F key data vo vs rs) := S1.out.mac t3 h3.out.2.1 (fun b hb => .inl hb)
    have v3n : ∀ b, v3.ownBlock = some b → W1.heap.size ≤ b := by
      intro b hb
      rcases h3.out.2.2.2.2 with h | ⟨g, h, hg⟩
      · rw [h] at hb; exact v2n b hb
      · rw [h] at hb; simp only [Option.some.injEq] at hb; have := t2.size; omega
    have V3 : Hid (Rd W3 v3 (x ++ mac hk key data) ∧ Off F.all v3 ∧ (∀ b, v3.ownBlock = some b → b < W3.heap.size) ∧ ∀ b, v3.ownBlock = some b → vo.ownBlock ≠ some b) := by
      refine ⟨h3.out.1.rd, h3.out.2.2.2.1, h3.out.1.lt, ?_⟩
      intro b hb e
      have := v3n b hb
      have := S1.out.out.lt b e
      omega
    obtain ⟨p3, c3, hv3⟩ := own_ex h3.out.1
    clear h2 h3 S2 L2 d0 d1 t2 t3 v2n v3n
    subst hv3
    obtain ⟨L3, hL3⟩ : ∃ L3, L3 = (x ++ mac hk key data).length := ⟨_, rfl⟩
    rw [← hL3] at V3 ⊢
    clear hL3
    have k0 : (W3.alloc (.cells #[.slice p3 L3 c3] 24)).cell? ⟨W3.heap.size, 0, none⟩ = some (.slice p3 L3 c3) := by
      have := (Row.new W3 24 [.slice p3 L3 c3]).cell 0
      exact this
    have S4 : Hid (SPS wb (W3.alloc (.cells #[.slice p3 L3 c3] 24)) hk F key data vo vs rs) := S3.out.tchNil (Tch.alloc _ _)
    have V4 : Hid (Rd (W3.alloc (.cells #[.slice p3 L3 c3] 24)) (.slice p3 L3 c3) (x ++ mac hk key data) ∧ Off F.all (.slice p3 L3 c3) ∧ (∀ b, (Value.slice p3 L3 c3).ownBlock = some b → b < (W3.alloc (.cells #[.slice p3 L3 c3] 24)).heap.size) ∧ ∀ b, (Value.slice p3 L3 c3).ownBlock = some b → vo.ownBlock ≠ some b) :=
      ⟨V3.out.1.tchNil (Tch.alloc _ _), V3.out.2.1, fun b hb => Nat.lt_of_lt_of_le (V3.out.2.2.1 b hb) (Tch.alloc (S := []) _ _).size, V3.out.2.2.2⟩
    have K0' := Lib.hid k0
    clear k0
    go_wp2_with (refine wpList_append_vs rfl _ _ rfl vo (.slice p3 L3 c3) vs W3.heap.size rfl rfl K0'.out rfl S4.out.out (by rw [S4.out.len]; have := HRS.out; omega) ?_)
    intro v5 W5 h5
    have S5 : Hid (SPS wb W5 hk F key data v5 (vs ++ [.slice p3 L3 c3]) (rs ++ [x ++ mac hk key data])) := S4.out.push h5.out.1 h5.out.2.1 (by rw [World.size_alloc]; exact h5.out.2.2) V4.out.1 V4.out.2.1 V4.out.2.2.1 V4.out.2.2.2
    clear h5 S4 V4 K0' S3 V3
    go_wp2
    refine J1.out _ _ ?_
    go_wp2
    exact ⟨⟨rfl, rfl⟩, ⟨e7.symm, e14.symm, e15.symm, trivial⟩, rfl, F, v5, _, rfl, rfl, S5⟩
  · go_wp2_with (fail)
    refine (kmReset hk F key data W1 S1.out.km).mono ?_
    rintro e W2 ⟨rfl, F2, h2⟩
    have S2 : Hid (SPS wb W2 hk F2 key [] vo vs rs) := S1.out.mac h2.out.2.2.1 h2.out.1 h2.out.2.2.2
    have EM : Hid (F2.m = F.m) := h2.out.2.1
    clear h2 d0 d1
    go_wp2
    refine J1.out _ _ ?_
    go_wp2
    exact ⟨⟨rfl, rfl⟩, ⟨e7.symm, e14.symm, e15.symm, trivial⟩, rfl, F2, vo, vs, EM.out, rfl, S2⟩
def SAX (a : Act) (w : World) (a' : Act) (w' : World) : Prop := Frm 45 a' ∧ Same [8] a a' ∧ w' = w
set_option maxRecDepth 100000 in
theorem saLeave (a : Act) (w : World) (h : Frm 45 a) (Q : Exit → Act → World → Prop) (n : Nat) (g15 : G a 15 = .int .i64 (n : Int)) (g16 : G a 16 = .int .i64 (n : Int))
    (hQ : ∀ a' w', SAX a w a' w' → Q (.exit 0) a' w') :
    (part (bodyOf Try.f38) [true, true, true, false, true, false, false]).wp Try.prog Q a w := by
  conv => arg 2; whnf
  rw [lit45 a h]
  simp only [g15, g16]
  clear h g15 g16
  go_wp2
  exact ⟨⟨rfl, rfl⟩, ⟨rfl, trivial⟩, rfl⟩
theorem saLoop_eq : part (bodyOf Try.f38) [true, true, true, false, true, false] = .loop (part (bodyOf Try.f38) [true, true, true, false, true, false, false]) := by kernel_rfl
/-- The slice v of steps reads as l. -/
def SRd (w : World) (v : Value) (l : List (Int × By)) : Prop :=
  ∃ b cap, v = .slice (some ⟨b, 0, none⟩) l.length cap ∧ ∀ (i : Nat) (s : Int × By), l[i]? = some s → ∃ u, w.cell? ⟨b, i * 2, none⟩ = some (.int .i64 s.1) ∧ w.cell? ⟨b, i * 2 + 1, none⟩ = some u ∧ Rd w u s.2
def runS (hk : Pu.HK) (key : By) (l : List (Int × By)) : By × List By := l.foldl (stp hk key) ([], [])
structure SAI (a0 : Act) (wb : World) (hk : Pu.HK) (m : Nat) (key : By) (l : List (Int × By)) (i : Nat) (a : Act) (w : World) : Prop where
  frm : Frm 45 a
  same : Same [7, 14, 15] a0 a
  le : i ≤ l.length
  g16 : G a 16 = .int .i64 (i : Int)
  st : ∃ F vo vs, F.m = m ∧ G a 8 = vo ∧ Hid (SPS wb w hk F key (runS hk key (l.take i)).1 vo vs (runS hk key (l.take i)).2)
/-- What the steps leave: a row of slices, each of which reads as a sum. -/
def SOut (wb w : World) (v : Value) (rs : List By) : Prop := ∃ vs, OwnS w v vs ∧ vs.length = rs.length ∧ (∀ (i : Nat) (x : Value) (r : By), vs[i]? = some x → rs[i]? = some r → Rd w x r) ∧ Tch [] wb w
def SAE (wb : World) (rs : List By) (a' : Act) (w' : World) : Prop := Frm 45 a' ∧ ∃ vo, G a' 8 = vo ∧ Hid (SOut wb w' vo rs)
theorem runS_take (hk : Pu.HK) (key : By) (l : List (Int × By)) (i : Nat) (h : i < l.length) : runS hk key (l.take (i + 1)) = stp hk key (runS hk key (l.take i)) l[i] := by
  unfold runS
  rw [List.take_succ_eq_append_getElem h, List.foldl_append]; rfl
theorem saLoop (a : Act) (wb w : World) (h : Frm 45 a) (Q : Exit → Act → World → Prop) (hk : Pu.HK) (F : HF) (key : By) (l : List (Int × By)) (sv : Value)
    (S : SPS wb w hk F key [] (.slice none 0 0) [] []) (hL : SRd wb sv l) (hn : l.length ≤ 1000) (hkd : ∀ s ∈ l, (s.1 = 0 ∨ s.1 = 1 ∨ s.1 = 2) ∧ s.2.length ≤ 2147483647)
    (hdl : ∀ i, (runS hk key (l.take i)).1.length ≤ 2147483647) (hrs : ∀ i, (runS hk key (l.take i)).2.length ≤ 1000)
    (g7 : G a 7 = .pointer (some ⟨F.m, 0, none⟩)) (g8 : G a 8 = .slice none 0 0) (g14 : G a 14 = sv) (g15 : G a 15 = .int .i64 (l.length : Int)) (g16 : G a 16 = .int .i64 0)
    (hQ : ∀ a' w', SAE wb (runS hk key l).2 a' w' → Q (.exit 0) a' w') :
    (part (bodyOf Try.f38) [true, true, true, false, true, false]).wp Try.prog Q a w := by
  rw [saLoop_eq]
  obtain ⟨b, cap, rfl, hc⟩ := hL
  refine wp_loop (fun a' w' => ∃ i, SAI a wb hk F.m key l i a' w') (fun a' _ => l.length - (intOf (G a' 16)).toNat) ⟨0, h, by simp [Same], by omega, g16, F, _, _, rfl, g8, S⟩ ?_
  rintro a1 w1 ⟨i, I⟩
  obtain ⟨F1, vo1, vs1, hm, e8, X1⟩ := I.st
  by_cases hi : i < l.length
  · obtain ⟨u, c0, c1, hu⟩ := hc i _ (List.getElem?_eq_getElem hi)
    have T := X1.out.tch
    obtain ⟨hk1, hk2⟩ := hkd _ (List.getElem_mem hi)
    refine saRound a1 wb w1 I.frm _ hk F1 key _ _ _ vo1 u vs1 b i l.length cap _ X1.out hi hn (T.cell c0 (by simp)) (T.cell c1 (by simp)) (hu.tchNil T) hk1 (hdl i) hk2 (hrs i) (by rw [hm]; exact (I.same.get 7 rfl).trans g7) e8 ((I.same.get 14 rfl).trans g14) ((I.same.get 15 rfl).trans g15) I.g16 ?_
    rintro a' w' ⟨p1, p2, p3, F2, vo2, vs2, q1, q2, q3⟩
    simp only [Exit.then]
    refine ⟨⟨i + 1, p1, ?_, by omega, p3, F2, vo2, vs2, q1.trans hm, q2, ?_⟩, ?_⟩
    · have s := I.same
      simp only [Same] at s p2 ⊢
      simp only [p2, s, and_self]
    · rw [runS_take hk key l i hi]; exact q3
    · rw [p3, I.g16]; simp [intOf]; omega
  · have hi' : i = l.length := by have := I.le; omega
    subst hi'
    refine saLeave a1 w1 I.frm _ l.length ((I.same.get 15 rfl).trans g15) I.g16 ?_
    rintro a' w' ⟨p1, p2, rfl⟩
    simp only [Exit.then]
    have X := X1.out
    rw [List.take_length] at X
    exact hQ _ _ ⟨p1, vo1, (p2.get 8 rfl).trans e8, vs1, X.out, X.len, X.rd, X.tch⟩
set_option maxHeartbeats 1000000 in
set_option maxRecDepth 100000 in
/-- impl.Steps. -/
theorem iSteps (kt : List UInt32) (k s bl : Int) (key : By) (l : List (Int × By)) (kv sv : Value) (w : World) (hK : KIs w kt) (hv : Rd w kv key) (hl : key.length ≤ 1099511627776) (hL : SRd w sv l) (hn : l.length ≤ 1000) (hkd : ∀ s ∈ l, (s.1 = 0 ∨ s.1 = 1 ∨ s.1 = 2) ∧ s.2.length ≤ 2147483647)
    (hdl : ∀ i, (runS (kindOf kt k s bl) key (l.take i)).1.length ≤ 2147483647) (hrs : ∀ i, (runS (kindOf kt k s bl) key (l.take i)).2.length ≤ 1000) :
    Calls Try.prog 38 #[.agg #[.int .i64 k, .int .i64 s, .int .i64 bl], kv, sv] w fun e w' => ∃ v', e = .returned v' ∧ Hid (SOut w w' v' (runS (kindOf kt k s bl) key l).2) := by
  have HV := Lib.hid hv
  have HL := Lib.hid hl
  have HK := Lib.hid hK
  have HSL := Lib.hid hL
  have HN := Lib.hid hn
  have HKD := Lib.hid hkd
  have HDL := Lib.hid hdl
  have HRS := Lib.hid hrs
  obtain ⟨sb, scap, rfl, _⟩ := hL
  clear hv hl hK hn hkd hdl hrs
  go_enter Try.func38, Try.ntmps38
  refine wp_seq_k (fun K0 k0 => ?_)
  have J0 := Lib.hid k0
  clear k0
  go_wp2
  generalize hW1 : World.alloc _ _ = W1
  have R1 : Row W1 w.heap.size 23 [.int .i64 k, .int .i64 s, .int .i64 bl] := by rw [← hW1]; exact Row.new w 23 _
  have T1 : Hid (Tch [] w W1) := by rw [← hW1]; exact Tch.alloc _ _
  have HR1 := Lib.hid R1
  clear hW1 R1
  obtain ⟨c, hc⟩ : ∃ c, c = w.heap.size := ⟨_, rfl⟩
  rw [← hc] at HR1 ⊢
  clear hc
  refine J0.out _ _ (wp_seq_k (fun K1 k1 => ?_))
  have J1 := Lib.hid k1
  clear k1
  go_wp2_with (first | (refine wpList_load_row rfl 23 _ rfl c rfl 23 #[.int .i64 k, .int .i64 s, .int .i64 bl] (0, 0) _ HR1.out Try.underlying23 rfl (by kernel_rfl) ?_) | fail)
  refine (iMac0 kt k s bl key kv W1 (HK.out.tch T1.out (by simp)) (HV.out.tchNil T1.out) HL.out).mono ?_
  intro e W2 hn0
  obtain ⟨F, rfl, h2⟩ := kmNew hn0
  clear hn0
  have T2 : Hid (Tch [] w W2) := T1.out.trans h2.out.2.1
  have S2 : Hid (SPS w W2 (kindOf kt k s bl) F key [] (.slice none 0 0) [] []) := by
    refine ⟨h2.out.1, OwnS.nil _, rfl, (by intro i v r h; simp at h), (by intro v h; simp at h), (by intro v h; simp at h), (by intro v h; simp at h), (by intro b hb; cases hb), ?_, (by intro b hb; cases hb), T2.out⟩
    intro b hb
    rcases h2.out.2.2 b hb with h | h
    · exact .inl h
    · exact .inr (Nat.le_trans T1.out.size h)
  clear h2 T1 T2 HR1 HK HV HL
  go_wp2
  refine J1.out _ _ (wp_seq_k (fun K2 k2 => ?_))
  have J2 := Lib.hid k2
  clear k2
  go_wp2
  refine J2.out _ _ (wp_seq_k (fun K3 k3 => ?_))
  have J3 := Lib.hid k3
  clear k3
  refine wp_seq_k (fun K4 k4 => ?_)
  have J4 := Lib.hid k4
  clear k4
  go_wp2
  refine J4.out _ _ (wp_block ?_)
  refine saLoop _ w W2 ⟨rfl, rfl⟩ _ (kindOf kt k s bl) F key l _ S2.out HSL.out HN.out HKD.out HDL.out HRS.out rfl rfl rfl rfl rfl ?_
  rintro a3 W3 ⟨f3, vo, g8, h3⟩
  refine J3.out _ _ ?_
  rw [lit45 a3 f3]
  simp only [g8]
  clear f3 g8
  refine wp_seq_k (fun K5 k5 => ?_)
  have J5 := Lib.hid k5
  clear k5
  go_wp2
  refine J5.out _ _ ?_
  go_wp2
  go_ret
  exact ⟨vo, rfl, h3⟩
end Go.Proofs.Ytgomodhhomekpaa
