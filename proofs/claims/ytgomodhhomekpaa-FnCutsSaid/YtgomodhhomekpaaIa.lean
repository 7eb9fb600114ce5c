/-
  impl.Mac.
-/
import Derived.Test.YtgomodhhomekpaaIm
namespace Go.Proofs.Ytgomodhhomekpaa
open Go.RowKit Pu Ar
/-- The slice v of slices reads as the pieces ps. -/
def PRd (w : World) (v : Value) (ps : List By) : Prop :=
  ∃ p cap, v = .slice p ps.length cap ∧ ps.length ≤ cap ∧ cap ≤ maxLen ∧ (ps = [] ∨ ∃ b o, p = some ⟨b, o, none⟩ ∧ ∀ i x, ps[i]? = some x → ∃ u, w.cell? ⟨b, o + i, none⟩ = some u ∧ Rd w u x)
theorem Rd.tchNil {w w' : World} {v : Value} {l : By} (h : Rd w v l) (k : Tch [] w w') : Rd w' v l := h.tch k (by intro b _; simp)
def IAP (a : Act) (w : World) (hk : Pu.HK) (F : HF) (o ib l : By) (i : Nat) (a' : Act) (w' : World) : Prop :=
  Frm 26 a' ∧ Same [7, 13, 14] a a' ∧ G a' 15 = .int .i64 ((i : Int) + 1) ∧ Hid (MacAt w' hk F o ib l) ∧ Hid (∃ wm, Tch [] w wm ∧ Tch [F.bi, F.si] wm w')
set_option maxRecDepth 100000 in
theorem iaRound (a : Act) (w : World) (h : Frm 26 a) (Q : Exit → Act → World → Prop) (hk : Pu.HK) (F : HF) (o ib l x : By) (b po i n cap : Nat) (u : Value)
    (hM : MacAt w hk F o ib l) (hi : i < n) (hn : (n : Int) ≤ 9223372036854775807) (cu : w.cell? ⟨b, po + i, none⟩ = some u) (hx : Rd w u x) (hlen : (l ++ x).length ≤ 1099511627776)
    (g7 : G a 7 = .pointer (some ⟨F.m, 0, none⟩)) (g13 : G a 13 = .slice (some ⟨b, po, none⟩) n cap) (g14 : G a 14 = .int .i64 n) (g15 : G a 15 = .int .i64 i)
    (hQ : ∀ a' w', IAP a w hk F o ib (l ++ x) i a' w' → Q .normal a' w') :
    (part (bodyOf Try.f26) [true, true, false, true, false, false]).wp Try.prog Q a w := by
  have hii : (i : Int) < n := by exact_mod_cast hi
  conv => arg 2; whnf
  rw [lit26 a h]
  simp only [g7, g13, g14, g15]
  have G7 := Lib.hid g7
  have G13 := Lib.hid g13
  have G14 := Lib.hid g14
  have HM := Lib.hid hM
  have HX := Lib.hid hx
  have HL := Lib.hid hlen
  clear h g7 g13 g14 g15 hM hx hlen
  go_wp2_with (fail)
  refine (iCopied u x w HX.out (by have := HL.out; rw [List.length_append] at this; omega)).mono ?_
  rintro e w1 ⟨v1, rfl, h1⟩
  have M1 : Hid (MacAt w1 hk F o ib l) := HM.out.tchNew h1.out.1.tchNil (by simp)
  have of1 : Off [F.bi, F.si] v1 := h1.out.1.fresh (by
    intro b hb; exact HM.out.lt b (by simp only [HF.all, List.mem_cons, List.not_mem_nil, or_false] at hb ⊢; omega))
  have OF1 := Lib.hid of1
  clear of1
  go_wp2_with (fail)
  refine (macWrite hk F o ib l x v1 w1 M1.out h1.out.1.1.rd h1.out.1.1.nm OF1.out HL.out).mono ?_
  rintro e w2 ⟨rfl, h2⟩
  go_wp2
  have E7 := G7.out
  have E13 := G13.out
  have E14 := G14.out
  exact ⟨⟨rfl, rfl⟩, ⟨E7.symm, E13.symm, E14.symm, trivial⟩, rfl, h2.out.1, ⟨w1, h1.out.1.tchNil, h2.out.2⟩⟩
def IAX (a : Act) (w : World) (a' : Act) (w' : World) : Prop := Frm 26 a' ∧ Same [7] a a' ∧ w' = w
set_option maxRecDepth 100000 in
theorem iaLeave (a : Act) (w : World) (h : Frm 26 a) (Q : Exit → Act → World → Prop) (n : Nat) (g14 : G a 14 = .int .i64 n) (g15 : G a 15 = .int .i64 n)
    (hQ : ∀ a' w', IAX a w a' w' → Q (.exit 0) a' w') :
    (part (bodyOf Try.f26) [true, true, false, true, false, false]).wp Try.prog Q a w := by
  conv => arg 2; whnf
  rw [lit26 a h]
  simp only [g14, g15]
  clear h g14 g15
  go_wp2
  exact ⟨⟨rfl, rfl⟩, ⟨rfl, trivial⟩, rfl⟩
theorem iaLoop_eq : part (bodyOf Try.f26) [true, true, false, true, false] = .loop (part (bodyOf Try.f26) [true, true, false, true, false, false]) := by kernel_rfl
structure IAI (a0 : Act) (w0 : World) (wb : World) (hk : Pu.HK) (F : HF) (o ib l : By) (ps : List By) (i : Nat) (a : Act) (w : World) : Prop where
  frm : Frm 26 a
  same : Same [7, 13, 14] a0 a
  le : i ≤ ps.length
  g15 : G a 15 = .int .i64 (i : Int)
  mac : MacAt w hk F o ib (l ++ (ps.take i).flatten)
  tch : Tch [] wb w
def IAE (a : Act) (wb : World) (hk : Pu.HK) (F : HF) (o ib l : By) (a' : Act) (w' : World) : Prop :=
  Frm 26 a' ∧ Same [7] a a' ∧ Hid (MacAt w' hk F o ib l ∧ Tch [] wb w')
theorem flatten_take_le (ps : List By) (i : Nat) : (ps.take i).flatten.length ≤ ps.flatten.length := by
  have e : ps.flatten = (ps.take i).flatten ++ (ps.drop i).flatten := by rw [← List.flatten_append, List.take_append_drop]
  rw [e, List.length_append]; omega
theorem PRd.tchNil {w w' : World} {v : Value} {ps : List By} (h : PRd w v ps) (k : Tch [] w w') : PRd w' v ps := by
  obtain ⟨p, cap, hv, h1, h2, h3⟩ := h
  refine ⟨p, cap, hv, h1, h2, ?_⟩
  rcases h3 with h | ⟨b, o, rfl, h⟩
  · exact .inl h
  · refine .inr ⟨b, o, rfl, fun i x hx => ?_⟩
    obtain ⟨u, hu, hr⟩ := h i x hx
    exact ⟨u, k.cell hu (by simp), hr.tchNil k⟩
theorem iaLoop (a : Act) (w wb : World) (h : Frm 26 a) (Q : Exit → Act → World → Prop) (hk : Pu.HK) (F : HF) (o ib l : By) (ps : List By) (v : Value)
    (hM : MacAt w hk F o ib l) (hT : Tch [] wb w) (hP : PRd wb v ps) (hF : wb.heap.size ≤ F.bi ∧ wb.heap.size ≤ F.si) (hlen : (l ++ ps.flatten).length ≤ 1099511627776)
    (g7 : G a 7 = .pointer (some ⟨F.m, 0, none⟩)) (g13 : G a 13 = v) (g14 : G a 14 = .int .i64 ps.length) (g15 : G a 15 = .int .i64 0)
    (hQ : ∀ a' w', IAE a wb hk F o ib (l ++ ps.flatten) a' w' → Q (.exit 0) a' w') :
    (part (bodyOf Try.f26) [true, true, false, true, false]).wp Try.prog Q a w := by
  rw [iaLoop_eq]
  obtain ⟨q, cap, hv, hcap, hmax, hrd⟩ := hP
  unfold maxLen at hmax
  refine wp_loop (fun a' w' => ∃ i, IAI a w wb hk F o ib l ps i a' w') (fun a' _ => ps.length - (intOf (G a' 15)).toNat) ⟨0, h, by simp [Same], by omega, g15, by simpa using hM, hT⟩ ?_
  rintro a1 w1 ⟨i, I⟩
  by_cases hi : i < ps.length
  · obtain ⟨pb, po, rfl, hcell⟩ : ∃ b o, q = some ⟨b, o, none⟩ ∧ ∀ i x, ps[i]? = some x → ∃ u, wb.cell? ⟨b, o + i, none⟩ = some u ∧ Rd wb u x := by
      rcases hrd with h | h
      · rw [h] at hi; simp at hi
      · exact h
    obtain ⟨u, cu, hu⟩ := hcell i _ (List.getElem?_eq_getElem hi)
    have ef : l ++ (ps.take (i + 1)).flatten = (l ++ (ps.take i).flatten) ++ ps[i] := by
      rw [List.take_succ_eq_append_getElem hi, List.flatten_append, List.append_assoc]; simp
    have hle := flatten_take_le ps (i + 1)
    refine iaRound a1 w1 I.frm _ hk F o ib _ ps[i] pb po i ps.length cap u I.mac hi (by omega) (I.tch.cell cu (by simp)) (hu.tchNil I.tch) (by
      rw [← ef, List.length_append]; rw [List.length_append] at hlen; omega) ((I.same.get 7 rfl).trans g7) ((I.same.get 13 rfl).trans (g13.trans hv)) ((I.same.get 14 rfl).trans g14) I.g15 ?_
    rintro a' w' ⟨p1, p2, p3, p4, wm, p5, p6⟩
    simp only [Exit.then]
    refine ⟨⟨i + 1, p1, ?_, by omega, p3, by rw [ef]; exact p4.out, (I.tch.trans p5).new p6 ?_⟩, ?_⟩
    · have s := I.same
      simp only [Same] at s p2 ⊢
      simp only [p2, s, and_self]
    · intro j hj; right; simp only [List.mem_cons, List.not_mem_nil, or_false] at hj; omega
    · rw [p3, I.g15]; simp [intOf]; omega
  · have hi' : i = ps.length := by have := I.le; omega
    subst hi'
    refine iaLeave a1 w1 I.frm _ ps.length ((I.same.get 14 rfl).trans g14) I.g15 ?_
    rintro a' w' ⟨p1, p2, rfl⟩
    simp only [Exit.then]
    have s := I.same
    have hm := I.mac
    rw [List.take_length] at hm
    refine hQ _ _ ⟨p1, ?_, hm, I.tch⟩
    simp only [Same] at s p2 ⊢
    simp only [p2, s, and_self]
set_option maxHeartbeats 1000000 in
set_option maxRecDepth 100000 in
/-- impl.Mac. -/
theorem iMac (kt : List UInt32) (k s bl : Int) (key : By) (ps : List By) (kv pv : Value) (w : World) (hK : KIs w kt) (hv : Rd w kv key) (hl : key.length ≤ 1099511627776) (hp : PRd w pv ps) (hpl : ps.flatten.length ≤ 549755813888) :
    Calls Try.prog 26 #[.agg #[.int .i64 k, .int .i64 s, .int .i64 bl], kv, pv] w fun e w' => ∃ v', e = .returned v' ∧ Hid (Grew w w' (.slice none 0 0) v' (mac (kindOf kt k s bl) key ps.flatten)) := by
  obtain ⟨pq, pc, hpe, _, _, _⟩ := id hp
  have HV := Lib.hid hv
  have HL := Lib.hid hl
  have HK := Lib.hid hK
  have HP := Lib.hid hp
  have HPL := Lib.hid hpl
  clear hv hl hK hp hpl
  subst hpe
  go_enter Try.func26, Try.ntmps26
  refine wp_seq_k (fun K0 k0 => ?_)
  have J0 := Lib.hid k0
  clear k0
  go_wp2
  generalize hW1 : World.alloc _ _ = W1
  have R1 : Row W1 w.heap.size 23 [.int .i64 k, .int .i64 s, .int .i64 bl] := by rw [← hW1]; exact Row.new w 23 _
  have T1 : Hid (Tch [] w W1) := by rw [← hW1]; exact Tch.alloc _ _
  have HR1 := Lib.hid R1
  clear hW1 R1
  obtain ⟨c, hc⟩ : ∃ c, c = w.heap.size := ⟨_, rfl⟩
  rw [← hc] at HR1 ⊢
  clear hc
  refine J0.out _ _ (wp_seq_k (fun K1 k1 => ?_))
  have J1 := Lib.hid k1
  clear k1
  go_wp2_with (first | (refine wpList_load_row rfl 23 _ rfl c rfl 23 #[.int .i64 k, .int .i64 s, .int .i64 bl] (0, 0) _ HR1.out Try.underlying23 rfl (by kernel_rfl) ?_) | fail)
  refine (iMac0 kt k s bl key kv W1 (HK.out.tch T1.out (by simp)) (HV.out.tchNil T1.out) HL.out).mono ?_
  rintro e W2 ⟨F, rfl, h2⟩
  go_wp2
  refine J1.out _ _ (wp_seq_k (fun K2 k2 => ?_))
  have J2 := Lib.hid k2
  clear k2
  go_wp2
  have MA := h2.out.1
  have hnew : Hid (∀ b ∈ F.all, b = 0 ∨ w.heap.size ≤ b) := by
    intro b hb
    rcases h2.out.2.2.2 b hb with h | h
    · exact .inl h
    · exact .inr (Nat.le_trans T1.out.size h)
  have hF : w.heap.size ≤ F.bi ∧ w.heap.size ≤ F.si := by
    have k1 := MA.k1
    constructor
    · rcases hnew.out F.bi (by simp [HF.all]) with h | h
      · exact absurd h.symm k1.2.2.2.1
      · exact h
    · rcases hnew.out F.si (by simp [HF.all]) with h | h
      · exact absurd h.symm k1.2.2.2.2
      · exact h
  have hil : (ipad (kindOf kt k s bl) key).length ≤ 64 := by rw [ipad_length MA.ok]; exact MA.ok.block_le
  have hol : (opad (kindOf kt k s bl) key).length ≤ 64 := by rw [opad_length MA.ok]; exact MA.ok.block_le
  have T2 : Hid (Tch [] w W2) := T1.out.trans h2.out.2.2.1
  have hlen : (ipad (kindOf kt k s bl) key ++ ps.flatten).length ≤ 1099511627776 := by rw [List.length_append]; have := HPL.out; omega
  refine iaLoop _ W2 w ⟨rfl, rfl⟩ _ (kindOf kt k s bl) F _ _ _ ps _ MA T2.out HP.out hF hlen rfl rfl rfl rfl ?_
  rintro a3 W3 ⟨f3, s3, m3⟩
  have g7 : G a3 7 = .pointer (some ⟨F.m, 0, none⟩) := s3.get 7 rfl
  rw [lit26 a3 f3]
  simp only [g7]
  have HLEN := Lib.hid hlen
  have HOLN := Lib.hid hol
  clear f3 s3 g7 hlen hol hil hF MA
  go_wp2
  refine J2.out _ _ (wp_seq_k (fun K3 k3 => ?_))
  have J3 := Lib.hid k3
  clear k3
  go_wp2_with (fail)
  refine (macSum0 (kindOf kt k s bl) F _ _ _ [] (.slice none 0 0) W3 m3.out.1 h2.out.2.1 (Own.nil _) (by intro b hb; cases hb) HLEN.out (by have := HOLN.out; omega) (by simp)).mono ?_
  rintro e W4 ⟨v4, rfl, h4⟩
  go_wp2
  refine J3.out _ _ ?_
  go_wp2
  go_ret
  refine ⟨v4, rfl, h4.out.1, ?_, ?_⟩
  · refine m3.out.2.new h4.out.2.2.1 ?_
    have k1 := m3.out.1.k1
    intro i hi
    right
    have hi' : i = F.bo ∨ i = F.so := by simpa [Value.ownBlock] using hi
    rcases hi' with rfl | rfl
    · rcases hnew.out F.bo (by simp [HF.all]) with h | h
      · exact absurd h.symm k1.2.1
      · exact h
    · rcases hnew.out F.so (by simp [HF.all]) with h | h
      · exact absurd h.symm k1.2.2.1
      · exact h
  · rcases h4.out.2.2.2.2 with h | ⟨g, h, hg⟩
    · exact .inl h
    · exact .inr ⟨g, h, Nat.le_trans m3.out.2.size hg⟩
end Go.Proofs.Ytgomodhhomekpaa
