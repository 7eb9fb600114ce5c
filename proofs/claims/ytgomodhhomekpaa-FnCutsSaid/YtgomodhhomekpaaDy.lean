/-
  Write of SHA-256's digest, whole: the digest of l becomes that of l ++ p.
-/
import Derived.Test.YtgomodhhomekpaaDx
namespace Go.Proofs.Ytgomodhhomekpaa
open Go.RowKit Pu Ar
/-- Block b is a digest that has taken in l. -/
def DigIs (w : World) (b : Nat) (kt : List UInt32) (l : By) : Prop :=
  l.length < 2305843009213693952 ∧ ∃ x, Dig w b (blocks kt init l) x (l.length % 64) l.length ∧ x.take (l.length % 64) = rest l
theorem DigIs.tch {S : List Nat} {w w' : World} {b : Nat} {kt : List UInt32} {l : By} (h : DigIs w b kt l) (k : Tch S w w') (hn : b ∉ S) : DigIs w' b kt l := by
  obtain ⟨h1, x, h2, h3⟩ := h
  exact ⟨h1, x, h2.tch k hn, h3⟩
/-- Behind the filling up: either nothing is kept and p1 is to be taken in, or nothing is left. -/
def Mid (w : World) (b : Nat) (kt : List UInt32) (l : By) (v : Value) (p1 : By) : Prop :=
  ∃ s1 x1 nx1, Dig w b s1 x1 nx1 l.length ∧ ((nx1 = 0 ∧ blocks kt s1 p1 = blocks kt init l ∧ rest p1 = rest l) ∨ (p1 = [] ∧ s1 = blocks kt init l ∧ x1.take nx1 = rest l ∧ nx1 = l.length % 64)) ∧ Rd w v p1 ∧ Nm v ∧ Off [b] v
theorem mid_end {w : World} {b : Nat} {kt : List UInt32} {l : By} {s1 : S8} {x1 : By} {nx1 : Nat} {p1 : By} (hl : l.length < 2305843009213693952)
    (h : (nx1 = 0 ∧ blocks kt s1 p1 = blocks kt init l ∧ rest p1 = rest l) ∨ (p1 = [] ∧ s1 = blocks kt init l ∧ x1.take nx1 = rest l ∧ nx1 = l.length % 64))
    (hd : if rest p1 = [] then Dig w b (blocks kt s1 p1) x1 nx1 l.length else Dig w b (blocks kt s1 p1) (lay x1 0 (rest p1)) (rest p1).length l.length) : DigIs w b kt l := by
  refine ⟨hl, ?_⟩
  have hrl := rest_length l
  rcases h with ⟨rfl, h1, h2⟩ | ⟨rfl, h1, h2, h3⟩
  · rw [h1, h2] at hd
    by_cases h0 : rest l = []
    · rw [if_pos h0] at hd
      have e : l.length % 64 = 0 := by rw [← hrl, h0]; rfl
      exact ⟨x1, by rw [e]; exact hd, by rw [e, h0]; rfl⟩
    · rw [if_neg h0, hrl] at hd
      refine ⟨_, hd, ?_⟩
      simp only [lay, List.take_zero, List.nil_append]
      rw [List.take_append_of_le_length (by omega), List.take_of_length_le (by omega)]
  · have e : rest ([] : By) = [] := rfl
    have e2 : blocks kt s1 [] = s1 := rfl
    rw [if_pos e, e2, h1, h3] at hd
    exact ⟨x1, hd, by rw [← h3]; exact h2⟩
theorem mid0 {kt : List UInt32} {l p : By} (h : l.length % 64 = 0) : blocks kt (blocks kt init l) p = blocks kt init (l ++ p) ∧ rest p = rest (l ++ p) :=
  ⟨(blocks_append _ _ _ _ h).symm, (rest_append _ _ h).symm⟩
theorem lay_take (x : By) (nx : Nat) (p r : By) (h : x.take nx = r) (hr : r.length = nx) : (lay x nx p).take (nx + p.length) = r ++ p := by
  unfold lay
  rw [h, ← List.append_assoc, List.take_append_of_le_length (by simp; omega), List.take_of_length_le (by simp; omega)]
theorem mid1 {kt : List UInt32} {l p x : By} (hx : x.take (l.length % 64) = rest l) (h : l.length % 64 + p.length < 64) :
    blocks kt init l = blocks kt init (l ++ p) ∧ (lay x (l.length % 64) p).take (l.length % 64 + p.length) = rest (l ++ p) ∧ l.length % 64 + p.length = (l ++ p).length % 64 := by
  have hr := rest_length l
  refine ⟨?_, ?_, by rw [List.length_append]; omega⟩
  · rw [blocks_more, blocks_short _ _ (rest l ++ p) (by rw [List.length_append]; omega)]
  · rw [lay_take x _ p _ hx hr, rest_more l p, rest_short (rest l ++ p) (by rw [List.length_append]; omega)]
theorem mid2 {kt : List UInt32} {l p x : By} (hx : x.take (l.length % 64) = rest l) (hx64 : x.length = 64) (h : 64 ≤ l.length % 64 + p.length) :
    blocks kt (blocks kt (blocks kt init l) (lay x (l.length % 64) (p.take (64 - l.length % 64)))) (p.drop (64 - l.length % 64)) = blocks kt init (l ++ p) ∧ rest (p.drop (64 - l.length % 64)) = rest (l ++ p) := by
  have hr := rest_length l
  have htl : (p.take (64 - l.length % 64)).length = 64 - l.length % 64 := by rw [List.length_take]; omega
  have e1 : lay x (l.length % 64) (p.take (64 - l.length % 64)) = rest l ++ p.take (64 - l.length % 64) := by
    have := lay_take x (l.length % 64) (p.take (64 - l.length % 64)) _ hx hr
    rwa [List.take_of_length_le (by rw [lay_length _ _ _ (by omega)]; omega)] at this
  have e2 : rest l ++ p = (rest l ++ p.take (64 - l.length % 64)) ++ p.drop (64 - l.length % 64) := by rw [List.append_assoc, List.take_append_drop]
  have e3 : (rest l ++ p.take (64 - l.length % 64)).length % 64 = 0 := by rw [List.length_append, hr, htl]; omega
  rw [e1]
  exact ⟨by rw [blocks_more kt init l p, e2, blocks_append _ _ _ _ e3], by rw [rest_more l p, e2, rest_append _ _ e3]⟩
/-- From the whole blocks on. -/
theorem dwTail (R : Code) (kt : List UInt32) (a : Act) (w0 w : World) (h : Frm 95 a) (Q : Exit → Act → World → Prop) (b : Nat) (l p1 : By) (v : Value) (hK : KIs w kt) (hl : l.length < 2305843009213693952) (hM : Mid w b kt l v p1)
    (g0 : G a 0 = .pointer (some ⟨b, 0, none⟩)) (g1 : G a 1 = v) (hT : Tch [b] w0 w)
    (hQ : ∀ a' w', (a'.defers = [] ∧ Same [0, 4, 5] a a' ∧ Tch [b] w0 w' ∧ DigIs w' b kt l) → R.wp Try.prog Q a' w') :
    (Code.seq (part (bodyOf Try.f100) [true, true, true, true, false]) (.seq (part (bodyOf Try.f100) [true, true, true, true, true, false]) R)).wp Try.prog Q a w := by
  obtain ⟨s1, x1, nx1, hD, hor, hr, hn, ho⟩ := hM
  have next : ∀ a2 w2, DC kt a w b s1 x1 nx1 l.length p1 a2 w2 → (Code.seq (part (bodyOf Try.f100) [true, true, true, true, true, false]) R).wp Try.prog Q a2 w2 := by
    rintro a2 w2 ⟨f2, s2, t2, r2, n2, o2, d2⟩
    have hrl := rest_length p1
    have fin : ∀ a' w', DD a2 w2 b (blocks kt s1 p1) x1 nx1 l.length (rest p1) a' w' → R.wp Try.prog Q a' w' := by
      rintro a' w' ⟨d3, s3, t3, dd⟩
      refine hQ _ _ ⟨d3, ?_, hT.trans (t2.trans t3), mid_end hl hor dd⟩
      simp only [Same] at s2 s3 ⊢
      simp only [s3, s2, and_self]
    by_cases h0 : rest p1 = []
    · exact wp_seq (dwD0 a2 w2 f2 _ b _ x1 nx1 _ _ (rest p1) d2 r2 h0 rfl fin)
    · exact wp_seq (dwD1 a2 w2 f2 _ b _ x1 nx1 _ _ (rest p1) d2 r2 (List.length_pos_iff.2 h0) (by omega) ((s2.get 0 rfl).trans g0) rfl fin)
  refine wp_seq ?_
  by_cases h64 : 64 ≤ p1.length
  · exact dwC1 kt a w h _ b s1 x1 nx1 _ v p1 hK hD hr hn ho h64 g0 g1 next
  · exact dwC0 kt a w h _ b s1 x1 nx1 _ v p1 hD hr hn ho (by omega) g1 next
theorem dw_eq : bodyOf Try.f100 = .seq (part (bodyOf Try.f100) [false]) (.seq (part (bodyOf Try.f100) [true, false]) (.seq (part (bodyOf Try.f100) [true, true, false]) (.seq (part (bodyOf Try.f100) [true, true, true, false])
    (.seq (part (bodyOf Try.f100) [true, true, true, true, false]) (.seq (part (bodyOf Try.f100) [true, true, true, true, true, false]) (part (bodyOf Try.f100) [true, true, true, true, true, true])))))) := by kernel_rfl
set_option maxHeartbeats 1000000 in
set_option maxRecDepth 100000 in
/-- Write of a digest. -/
theorem digWrite (kt : List UInt32) (b : Nat) (l p : By) (v : Value) (w : World) (hK : KIs w kt) (hD : DigIs w b kt l) (hp : Rd w v p) (hn : Nm v) (hoff : Off [b] v) (hlen : (l ++ p).length < 2305843009213693952) :
    Calls Try.prog 100 #[.pointer (some ⟨b, 0, none⟩), v] w fun e w' =>
      e = .returned (.tuple #[.int .i64 p.length, .nilIface]) ∧ Hid (DigIs w' b kt (l ++ p) ∧ Tch [b] w w') := by
  obtain ⟨hl, x, hd, hx⟩ := hD
  have hlp : l.length + p.length < 2305843009213693952 := by rw [List.length_append] at hlen; exact hlen
  have c73 := hd.ln
  have f73 := hd.row.free 73
  have HP := Lib.hid hp
  obtain ⟨q, cap, hv, hcap, hmax, hrd⟩ := hp
  unfold maxLen at hmax
  have hkb : 0 ≠ b := fun e => Row.ne hd.row hK.2 (by decide) e.symm
  have HK := Lib.hid hK
  have HD := Lib.hid hd
  have HX := Lib.hid hx
  have HN := Lib.hid hn
  have HO := Lib.hid hoff
  have HLEN := Lib.hid hlen
  have HKB := Lib.hid hkb
  clear hK hd hx hn hoff hrd hlen hkb
  subst hv
  go_enter Try.func100, Try.ntmps100
  refine wp_seq_k (fun K1 h1 => ?_)
  have H1 := Lib.hid h1
  clear h1
  go_wp2
  refine H1.out _ _ (wp_seq_k (fun K2 h2 => ?_))
  have H2 := Lib.hid h2
  clear h2 H1 K1
  go_wp2
  refine H2.out _ _ (wp_seq_k (fun K3 h3 => ?_))
  have H3 := Lib.hid h3
  clear h3 H2 K2
  go_wp2
  refine H3.out _ _ ?_
  generalize hW : World.setCell _ _ _ = W1
  have D1 : Dig W1 b (blocks kt init l) x (l.length % 64) (l ++ p).length := by rw [← hW, List.length_append]; exact HD.out.setLn (l.length + p.length)
  have T1 : Tch [b] w W1 := by rw [← hW]; exact Tch.setCell _ _ _ (by simp)
  have K1 := HK.out.tch T1 (by simpa using HKB.out)
  have R1 := HP.out.tch T1 HO.out
  clear hW H3 K3 c73 f73
  have fin : ∀ (a0 : Act) (a' : Act) (w' : World), G a0 4 = .int .i64 p.length → G a0 5 = .nilIface → (a'.defers = [] ∧ Same [0, 4, 5] a0 a' ∧ Tch [b] w w' ∧ DigIs w' b kt (l ++ p)) →
      (Code.ret).wp Try.prog (bodyPost Try.prog Try.f100 fun e w' => e = .returned (.tuple #[.int .i64 p.length, .nilIface]) ∧ Hid (DigIs w' b kt (l ++ p) ∧ Tch [b] w w')) a' w' := by
    rintro a0 a' w' e4 e5 ⟨hd, hs, ht, hi⟩
    refine wp_ret (bodyPost_ret (results_tmp2 rfl _ _ _) hd ⟨?_, hi, ht⟩)
    show Ending.returned (.tuple #[G a' 4, G a' 5]) = _
    rw [hs.get 4 rfl, hs.get 5 rfl, e4, e5]
  by_cases h0 : l.length % 64 = 0
  · refine wp_seq (dwB0 _ W1 ⟨rfl, rfl⟩ _ b _ x _ (by rw [← h0]; exact D1) rfl ?_)
    rintro a2 w2 ⟨f2, s2, rfl⟩
    obtain ⟨m1, m2⟩ := mid0 (kt := kt) (l := l) (p := p) h0
    refine dwTail _ kt a2 w w2 f2 _ b (l ++ p) p _ K1 HLEN.out ⟨_, x, 0, by rw [← h0]; exact D1, .inl ⟨rfl, m1, m2⟩, R1, HN.out, HO.out⟩ (s2.get 0 rfl) (s2.get 1 rfl) T1 ?_
    intro a' w' h
    exact fin a2 a' w' (s2.get 4 rfl) (s2.get 5 rfl) h
  · by_cases hlt : l.length % 64 + p.length < 64
    · refine wp_seq (dwB1 kt _ W1 ⟨rfl, rfl⟩ _ b _ x _ _ _ p D1 (by omega) R1 HN.out HO.out hlt rfl rfl ?_)
      rintro a2 w2 ⟨f2, s2, t2, e2, d2⟩
      rw [if_pos hlt] at d2
      have em : min p.length (64 - l.length % 64) = p.length := by omega
      rw [em] at e2
      obtain ⟨r1, r2, r3⟩ := cut_rd (R1.tch t2 HO.out) HN.out p.length (Nat.le_refl _)
      rw [List.drop_length] at r1
      obtain ⟨m1, m2, m3⟩ := mid1 (kt := kt) HX.out hlt
      refine dwTail _ kt a2 w w2 f2 _ b (l ++ p) [] _ (K1.tch t2 (by simpa using HKB.out)) HLEN.out ⟨_, _, _, d2, .inr ⟨rfl, m1, m2, m3⟩, r1, r2, r3 _ HO.out⟩ (s2.get 0 rfl) e2 (T1.trans t2) ?_
      intro a' w' h
      exact fin a2 a' w' (s2.get 4 rfl) (s2.get 5 rfl) h
    · refine wp_seq (dwB2 kt _ W1 ⟨rfl, rfl⟩ _ b _ x _ _ _ p K1 (by omega) D1 (by omega) R1 HN.out HO.out (by omega) rfl rfl ?_)
      rintro a2 w2 ⟨f2, s2, t2, e2, d2⟩
      rw [if_neg hlt] at d2
      have em : min p.length (64 - l.length % 64) = 64 - l.length % 64 := by omega
      rw [em] at e2
      obtain ⟨r1, r2, r3⟩ := cut_rd (R1.tch t2 HO.out) HN.out (64 - l.length % 64) (by omega)
      obtain ⟨m1, m2⟩ := mid2 (kt := kt) (p := p) HX.out HD.out.len (by omega)
      refine dwTail _ kt a2 w w2 f2 _ b (l ++ p) (p.drop (64 - l.length % 64)) _ (K1.tch t2 (by simpa using HKB.out)) HLEN.out ⟨_, _, _, d2, .inl ⟨rfl, m1, m2⟩, r1, r2, r3 _ HO.out⟩ (s2.get 0 rfl) e2 (T1.trans t2) ?_
      intro a' w' h
      exact fin a2 a' w' (s2.get 4 rfl) (s2.get 5 rfl) h
end Go.Proofs.Ytgomodhhomekpaa
