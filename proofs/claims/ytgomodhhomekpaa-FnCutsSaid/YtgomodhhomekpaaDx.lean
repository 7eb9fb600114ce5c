/-
  Write of SHA-256's digest: the whole blocks.
-/
import Derived.Test.YtgomodhhomekpaaDw
namespace Go.Proofs.Ytgomodhhomekpaa
open Go.RowKit Pu Ar
theorem andNot63 (n : Nat) (h : n < 9223372036854775808) : bits .andNot .i64 (n : Int) 63 = ((64 * (n / 64) : Nat) : Int) := by
  have e : (BitVec.ofInt 64 (n : Int) &&& ~~~BitVec.ofInt 64 63).toNat = 64 * (n / 64) := by
    rw [BitVec.toNat_and, BitVec.toNat_not]
    have e1 : (BitVec.ofInt 64 (n : Int)).toNat = n := by rw [BitVec.ofInt_natCast, BitVec.toNat_ofNat]; exact Nat.mod_eq_of_lt (by omega)
    have e2 : 2 ^ 64 - 1 - (BitVec.ofInt 64 63).toNat = 18446744073709551552 := by decide
    rw [e1, e2, nat_hi64_6, Nat.mod_eq_of_lt (by omega)]
    omega
  show IntKind.i64.wrap ((BitVec.ofInt 64 (n : Int) &&& ~~~BitVec.ofInt 64 63).toNat : Int) = _
  rw [e, IntWalk.i64_in _ (by omega)]
def upto (v : Value) (k : Nat) : Value := match v with | .slice q _ c => .slice q k c | v => v
theorem run_upto (w : World) (v : Value) (n cap k : Nat) (q : Option Addr) (hv : v = .slice q n cap) (hn : Nm v) (hk : k ≤ cap) :
    (Instr.slice 24 v none (some (.int .i64 (k : Int))) none).run Try.prog w = .ok (upto v k) w := by
  have hu : Try.prog.underlying 24 = some (.slice 5) := Try.underlying24
  obtain ⟨i, hi, _, hz1, _⟩ := info_parts infoByte
  have h1 : (k : Int) ≤ (cap : Int) := by omega
  rcases hn with e | ⟨b, o, n', c', e⟩
  · rw [hv] at e
    simp only [Value.slice.injEq] at e
    obtain ⟨rfl, rfl, rfl⟩ := e
    obtain rfl : k = 0 := by omega
    subst hv
    simp [Instr.slice, run_underlying hu, Instr.sliceBounds, Instr.sliceBound, asIntOf, sizeOf, typeInfo, hi, upto]
  · rw [hv] at e
    simp only [Value.slice.injEq] at e
    obtain ⟨rfl, rfl, rfl⟩ := e
    subst hv
    by_cases hck : cap = 0
    · subst hck
      obtain rfl : k = 0 := by omega
      simp [Instr.slice, run_underlying hu, Instr.sliceBounds, Instr.sliceBound, asIntOf, sizeOf, typeInfo, hi, upto]
    · simp [Instr.slice, run_underlying hu, Instr.sliceBounds, Instr.sliceBound, asIntOf, sizeOf, typeInfo, hi, upto, hck, add_lit']
      intro h; omega
theorem upto_rd {w : World} {v : Value} {l : By} (h : Rd w v l) (k : Nat) (hk : k ≤ l.length) : Rd w (upto v k) (l.take k) := by
  obtain ⟨p, cap, rfl, hc, hm, hr⟩ := h
  exact Rd.take ⟨p, cap, rfl, hc, hm, hr⟩ k hk
def DL (a : Act) (w : World) (b : Nat) (s : S8) (x : By) (nx ln : Nat) (v : Value) (n : Nat) (a' : Act) (w' : World) : Prop :=
  Frm 95 a' ∧ Same [0, 4, 5] a a' ∧ Tch [b] w w' ∧ G a' 1 = v ∧ G a' 7 = .int .i64 (n : Int) ∧ Dig w' b s x nx ln
set_option maxHeartbeats 1000000 in
set_option maxRecDepth 100000 in
theorem dwRound (kt : List UInt32) (a : Act) (w : World) (h : Frm 95 a) (Q : Exit → Act → World → Prop) (b : Nat) (s : S8) (x : By) (nx ln : Nat) (v : Value) (p : By) (n M : Nat) (hM : M = 65536) (hK : KIs w kt)
    (hD : Dig w b s x nx ln) (hp : Rd w v p) (hn : Nm v) (hnp : n ≤ p.length) (hlt : M < n)
    (g0 : G a 0 = .pointer (some ⟨b, 0, none⟩)) (g1 : G a 1 = v) (g7 : G a 7 = .int .i64 n)
    (hQ : ∀ a' w', DL a w b (blocks kt s (p.take M)) x nx ln (cut v M) (n - M) a' w' → Q .normal a' w') :
    (part (bodyOf Try.f100) [true, true, true, true, false, true, false, true, false, false, false]).wp Try.prog Q a w := by
  have HM := Lib.hid hM
  have hltM : 65536 < n := by omega
  clear hlt
  obtain ⟨q, cap, hv, hcap, hmax, hrd⟩ := hp
  have hp : Rd w v p := ⟨q, cap, hv, hcap, hmax, hrd⟩
  have hs1 : ∀ w, (Instr.slice 24 v none (some (.int .i64 65536)) none).run Try.prog w = .ok (upto v M) w := fun w => by rw [hM]; exact run_upto w v p.length cap 65536 q hv hn (by omega)
  have hs2 : ∀ w, (Instr.slice 24 v (some (.int .i64 65536)) none none).run Try.prog w = .ok (cut v M) w := fun w => by rw [hM]; exact run_cut w v p.length cap 65536 q hv hn (by omega) hcap
  unfold maxLen at hmax
  have hi : (n : Int) ≤ 9223372036854775807 := by omega
  have HB := Lib.hid (blockC kt s b x nx ln (upto v M) (p.take M) w hK hD (upto_rd hp M (by omega)))
  conv => arg 2; whnf
  rw [lit95 a h]
  simp only [g0, g1, g7]
  have G0 := Lib.hid g0
  clear hM h hK hD hp g0 g1 g7 hrd hmax hcap hv hn
  go_wp2_with (fail)
  refine HB.out.mono ?_
  rintro e w3 ⟨rfl, H3⟩
  go_wp2
  have e : (n : Int) - 65536 = ((n - M : Nat) : Int) := by have := HM.out; omega
  refine ⟨⟨rfl, rfl⟩, ⟨(G0.out).symm, rfl, rfl, trivial⟩, H3.out.2, rfl, by rw [← e]; rfl, H3.out.1⟩
set_option maxRecDepth 100000 in
theorem dwLeave (a : Act) (w : World) (h : Frm 95 a) (Q : Exit → Act → World → Prop) (n : Nat) (hlt : n ≤ 65536) (g7 : G a 7 = .int .i64 n)
    (hQ : ∀ a' w', (Frm 95 a' ∧ Same [0, 1, 4, 5, 7] a a' ∧ w' = w) → Q (.exit 0) a' w') :
    (part (bodyOf Try.f100) [true, true, true, true, false, true, false, true, false, false, false]).wp Try.prog Q a w := by
  conv => arg 2; whnf
  rw [lit95 a h]
  simp only [g7]
  have G7 := Lib.hid g7
  have HQ := Lib.hid hQ
  clear h g7 hQ
  go_wp2
  exact HQ.out _ _ ⟨⟨rfl, rfl⟩, ⟨rfl, rfl, rfl, rfl, (G7.out).symm, trivial⟩, rfl⟩
theorem dwLoop_eq : part (bodyOf Try.f100) [true, true, true, true, false, true, false, true, false, false] = .loop (part (bodyOf Try.f100) [true, true, true, true, false, true, false, true, false, false, false]) := by kernel_rfl
/-- The loop over great pieces: after j of them. -/
structure DI (kt : List UInt32) (a0 : Act) (w0 : World) (b : Nat) (s : S8) (x : By) (nx ln : Nat) (p : By) (N M j : Nat) (a : Act) (w : World) : Prop where
  frm : Frm 95 a
  same : Same [0, 4, 5] a0 a
  le : M * j < N
  rd : Rd w (G a 1) (p.drop (M * j))
  nm : Nm (G a 1)
  off : Off [b] (G a 1)
  g7 : G a 7 = .int .i64 ((N - M * j : Nat) : Int)
  dig : Dig w b (blocks kt s (p.take (M * j))) x nx ln
  tch : Tch [b] w0 w
def DLE (kt : List UInt32) (a0 : Act) (w0 : World) (b : Nat) (s : S8) (x : By) (nx ln : Nat) (p : By) (N : Nat) (a : Act) (w : World) : Prop := ∃ M j, M = 65536 ∧ DI kt a0 w0 b s x nx ln p N M j a w
theorem dwLoop (kt : List UInt32) (a : Act) (w : World) (h : Frm 95 a) (Q : Exit → Act → World → Prop) (b : Nat) (s : S8) (x : By) (nx ln : Nat) (v : Value) (p : By) (N : Nat) (hK : KIs w kt)
    (hD : Dig w b s x nx ln) (hp : Rd w v p) (hn : Nm v) (hoff : Off [b] v) (hN : N ≤ p.length) (hN0 : 0 < N)
    (g0 : G a 0 = .pointer (some ⟨b, 0, none⟩)) (g1 : G a 1 = v) (g7 : G a 7 = .int .i64 N)
    (hQ : ∀ a' w', DLE kt a w b s x nx ln p N a' w' → Q (.exit 0) a' w') :
    (part (bodyOf Try.f100) [true, true, true, true, false, true, false, true, false, false]).wp Try.prog Q a w := by
  rw [dwLoop_eq]
  obtain ⟨M, hM⟩ : ∃ M, M = 65536 := ⟨_, rfl⟩
  have hKb : 0 ≠ b := fun e => Row.ne hD.row hK.2 (by decide) e.symm
  refine wp_loop (fun a' w' => ∃ j, DI kt a w b s x nx ln p N M j a' w') (fun a' _ => (intOf (G a' 7)).toNat) ⟨0, h, by simp [Same], by omega, by rw [g1]; exact hp, by rw [g1]; exact hn, by rw [g1]; exact hoff, g7, by simpa [blocks, blocksN] using hD, Tch.refl _ _⟩ ?_
  rintro a1 w1 ⟨j, I⟩
  have hle := I.le
  by_cases hlt : M < N - M * j
  · have hpl : (p.drop (M * j)).length = p.length - M * j := List.length_drop
    refine dwRound kt a1 w1 I.frm _ b _ x nx ln _ _ (N - M * j) M hM (hK.tch I.tch (by simpa using hKb)) I.dig I.rd I.nm (by omega) hlt ((I.same.get 0 rfl).trans g0) rfl I.g7 ?_
    rintro a' w' ⟨p1, p2, p3, p4, p5, p6⟩
    have hr := I.rd
    obtain ⟨r1, r2, r3⟩ := cut_rd (hr.tch p3 I.off) I.nm M (by omega)
    have e1 : p.drop (M * (j + 1)) = (p.drop (M * j)).drop M := by rw [List.drop_drop, Nat.mul_add, Nat.mul_one]
    have e2 : N - M * j - M = N - M * (j + 1) := by rw [Nat.mul_add, Nat.mul_one]; omega
    have e3 : blocks kt (blocks kt s (p.take (M * j))) ((p.drop (M * j)).take M) = blocks kt s (p.take (M * (j + 1))) := by
      rw [← blocks_append _ _ _ _ (by rw [List.length_take, Nat.min_eq_left (by omega), hM]; omega)]
      congr 1
      rw [show M * (j + 1) = M * j + M by rw [Nat.mul_add, Nat.mul_one], List.take_add]
    simp only [Exit.then]
    refine ⟨⟨j + 1, p1, ?_, by rw [Nat.mul_add, Nat.mul_one]; omega, by rw [p4, e1]; exact r1, by rw [p4]; exact r2, by rw [p4]; exact r3 _ I.off, by rw [p5, e2], by rw [← e3]; exact p6, I.tch.trans p3⟩, ?_⟩
    · have s1 := I.same
      simp only [Same] at s1 p2 ⊢
      simp only [p2, s1, and_self]
    · rw [p5, I.g7]; simp [intOf]; omega
  · refine dwLeave a1 w1 I.frm _ _ (by omega) I.g7 ?_
    rintro a' w' ⟨p1, p2, rfl⟩
    simp only [Exit.then]
    have s1 := I.same
    have k := fun i (hi : [0, 1, 4, 5, 7].contains i = true) => p2.get i hi
    refine hQ _ _ ⟨M, j, hM, p1, ?_, I.le, by rw [k 1 rfl]; exact I.rd, by rw [k 1 rfl]; exact I.nm, by rw [k 1 rfl]; exact I.off, by rw [k 7 rfl]; exact I.g7, I.dig, I.tch⟩
    simp only [Same] at s1 ⊢
    simp only [k 0 rfl, k 4 rfl, k 5 rfl, s1, and_self]
/-- Behind the whole blocks. -/
def DC (kt : List UInt32) (a : Act) (w : World) (b : Nat) (s : S8) (x : By) (nx ln : Nat) (p : By) (a' : Act) (w' : World) : Prop :=
  Frm 95 a' ∧ Same [0, 4, 5] a a' ∧ Tch [b] w w' ∧ Rd w' (G a' 1) (rest p) ∧ Nm (G a' 1) ∧ Off [b] (G a' 1) ∧ Dig w' b (blocks kt s p) x nx ln
set_option maxHeartbeats 1000000 in
set_option maxRecDepth 100000 in
theorem dwC0 (kt : List UInt32) (a : Act) (w : World) (h : Frm 95 a) (Q : Exit → Act → World → Prop) (b : Nat) (s : S8) (x : By) (nx ln : Nat) (v : Value) (p : By)
    (hD : Dig w b s x nx ln) (hp : Rd w v p) (hn : Nm v) (hoff : Off [b] v) (hlt : p.length < 64) (g1 : G a 1 = v)
    (hQ : ∀ a' w', DC kt a w b s x nx ln p a' w' → Q .normal a' w') :
    (part (bodyOf Try.f100) [true, true, true, true, false]).wp Try.prog Q a w := by
  have H := Lib.hid (show Rd w v (rest p) ∧ Nm v ∧ Off [b] v ∧ Dig w b (blocks kt s p) x nx ln by rw [rest_short _ hlt, blocks_short _ _ _ hlt]; exact ⟨hp, hn, hoff, hD⟩)
  obtain ⟨q, cap, hv, hcap, hmax, hrd⟩ := hp
  subst hv
  have hl : (p.length : Int) < 64 := by omega
  conv => arg 2; whnf
  rw [lit95 a h]
  simp only [g1]
  clear h g1 hD hoff hn hrd hmax hcap
  go_wp2
  exact ⟨⟨rfl, rfl⟩, ⟨rfl, rfl, rfl, trivial⟩, Tch.refl _ _, H.out⟩
set_option maxHeartbeats 1000000 in
set_option maxRecDepth 100000 in
theorem dwC1 (kt : List UInt32) (a : Act) (w : World) (h : Frm 95 a) (Q : Exit → Act → World → Prop) (b : Nat) (s : S8) (x : By) (nx ln : Nat) (v : Value) (p : By) (hK : KIs w kt)
    (hD : Dig w b s x nx ln) (hp : Rd w v p) (hn : Nm v) (hoff : Off [b] v) (hlt : 64 ≤ p.length) (g0 : G a 0 = .pointer (some ⟨b, 0, none⟩)) (g1 : G a 1 = v)
    (hQ : ∀ a' w', DC kt a w b s x nx ln p a' w' → Q .normal a' w') :
    (part (bodyOf Try.f100) [true, true, true, true, false]).wp Try.prog Q a w := by
  have HP := Lib.hid hp
  obtain ⟨q, cap, hv, hcap, hmax, hrd⟩ := hp
  subst hv
  unfold maxLen at hmax
  have hl : (64 : Int) ≤ p.length := by omega
  have hA := andNot63 p.length (by omega)
  conv => arg 2; whnf
  rw [lit95 a h]
  simp only [g0, g1]
  have HK := Lib.hid hK
  have HD := Lib.hid hD
  have HO := Lib.hid hoff
  have HN := Lib.hid hn
  have HG := Lib.hid g0
  have HH := Lib.hid h
  obtain ⟨N, hN⟩ : ∃ N, N = 64 * (p.length / 64) := ⟨_, rfl⟩
  rw [← hN] at hA
  have HNN := Lib.hid hN
  have hKb : 0 ≠ b := fun e => Row.ne hD.row hK.2 (by decide) e.symm
  have HKB := Lib.hid hKb
  clear h hD hoff hn hrd hmax hcap hK g0 g1 hN hKb
  go_wp2
  refine dwLoop kt _ w ⟨rfl, rfl⟩ _ b s x nx ln _ p N HK.out HD.out HP.out HN.out HO.out (by have := HNN.out; omega) (by have := HNN.out; omega) rfl rfl rfl ?_
  rintro a' w' ⟨M, j, hM, I⟩
  obtain ⟨m, hm⟩ : ∃ m, m = N - M * j := ⟨_, rfl⟩
  have hmN : M * j + m = N := by have := I.le; omega
  have hNp : N ≤ p.length := by have := HNN.out; omega
  have hdl : (p.drop (M * j)).length = p.length - M * j := List.length_drop
  have g7 := I.g7
  rw [← hm] at g7
  have g0 : G a' 0 = .pointer (some ⟨b, 0, none⟩) := I.same.1
  have HS : Hid (G a' 4 = G a 4 ∧ G a' 5 = G a 5) := ⟨I.same.2.1, I.same.2.2.1⟩
  have hnm := I.nm
  have hoff := I.off
  have hrd := I.rd
  have htch := I.tch
  obtain ⟨q2, cap2, hv2, hc2, hm2, hr2⟩ := I.rd
  have hs1 := fun w => run_upto w (G a' 1) _ cap2 m q2 hv2 hnm (by omega)
  have hs2 := fun w => run_cut w (G a' 1) _ cap2 m q2 hv2 hnm (by omega) hc2
  have HB := Lib.hid (blockC kt _ b x nx ln (upto (G a' 1) m) ((p.drop (M * j)).take m) w' (HK.out.tch htch (by simpa using HKB.out)) I.dig (upto_rd hrd m (by omega)))
  have hbl : blocks kt (blocks kt s (p.take (M * j))) ((p.drop (M * j)).take m) = blocks kt s p := by
    rw [← blocks_append _ _ _ _ (by rw [List.length_take, Nat.min_eq_left (by omega), hM]; omega), ← List.take_add, hmN, HNN.out, blocks_take]
  have hre : (p.drop (M * j)).drop m = rest p := by rw [List.drop_drop, hmN, HNN.out]; rfl
  rw [hbl] at HB
  have HF := Lib.hid I.frm
  have HX := Lib.hid (And.intro hnm (And.intro hoff (And.intro hrd (And.intro htch (And.intro hre (show m ≤ (p.drop (M * j)).length by omega))))))
  rw [lit95 a' I.frm]
  simp only [g0, g7]
  clear I hnm hoff hrd htch hv2 hc2 hm2 hr2 hbl hre hm hmN hNp hdl g0 g7 hM hA
  go_wp2_with (fail)
  refine HB.out.mono ?_
  rintro e w3 ⟨rfl, H3⟩
  go_wp2
  obtain ⟨x1, x2, x3, x4, x5, x6⟩ := HX.out
  obtain ⟨r1, r2, r3⟩ := cut_rd (x3.tch H3.out.2 x2) x1 m x6
  rw [x5] at r1
  exact ⟨⟨rfl, rfl⟩, ⟨(HG.out).symm, HS.out.1, HS.out.2, trivial⟩, x4.trans H3.out.2, r1, r2, r3 _ x2, H3.out.1⟩
def DD (a : Act) (w : World) (b : Nat) (s : S8) (x : By) (nx ln : Nat) (p : By) (a' : Act) (w' : World) : Prop :=
  a'.defers = [] ∧ Same [0, 4, 5] a a' ∧ Tch [b] w w' ∧ (if p = [] then Dig w' b s x nx ln else Dig w' b s (lay x 0 p) p.length ln)
set_option maxRecDepth 100000 in
theorem dwD0 (a : Act) (w : World) (h : Frm 95 a) (Q : Exit → Act → World → Prop) (b : Nat) (s : S8) (x : By) (nx ln : Nat) (v : Value) (p : By)
    (hD : Dig w b s x nx ln) (hp : Rd w v p) (h0 : p = []) (g1 : G a 1 = v) (hQ : ∀ a' w', DD a w b s x nx ln p a' w' → Q .normal a' w') :
    (part (bodyOf Try.f100) [true, true, true, true, true, false]).wp Try.prog Q a w := by
  obtain ⟨q, cap, hv, hcap, hmax, hrd⟩ := hp
  subst hv h0
  conv => arg 2; whnf
  rw [lit95 a h]
  simp only [g1, List.length_nil]
  have HD := Lib.hid hD
  clear h g1 hD hrd hmax hcap
  go_wp2
  exact ⟨rfl, ⟨rfl, rfl, rfl, trivial⟩, Tch.refl _ _, by rw [if_pos rfl]; exact HD.out⟩
theorem dig_lay0 {w w2 : World} {b : Nat} {s : S8} {x : By} {nx ln k : Nat} {p : By} (h : Dig w b s x nx ln) (hk : k = p.length) (h64 : p.length < 64)
    (H : Hid (Row w2 b 104 ((digCells s x nx ln).take 8 ++ ((p.take k).map vb ++ (digCells s x nx ln).drop (8 + k))) ∧ Tch [b] w w2)) : Dig w2 b s (lay x 0 p) nx ln := by
  subst hk
  have e := H.out.1
  have e2 := digCells_lay s x nx ln p
  have hl := h.len
  rw [List.take_length] at e
  refine ⟨?_, by rw [lay_length _ _ _ (by omega), hl]⟩
  unfold digCells lay at *
  have e8 : ([vw s.a, vw s.b, vw s.c, vw s.d, vw s.e, vw s.f, vw s.g, vw s.h] : List Value).length = 8 := rfl
  generalize ([vw s.a, vw s.b, vw s.c, vw s.d, vw s.e, vw s.f, vw s.g, vw s.h] : List Value) = L at e8 e ⊢
  generalize ([.int .i64 (nx : Int), .int .u64 (ln : Int), .bool false] : List Value) = T at e ⊢
  rw [List.append_assoc, List.take_append, List.drop_append, e8] at e
  rw [List.take_of_length_le (l := L) (by omega), List.drop_of_length_le (l := L) (by omega), List.nil_append] at e
  rw [show 8 - 8 = 0 by omega, show 8 + p.length - 8 = p.length by omega] at e
  rw [List.drop_append_of_le_length (by simp; omega)] at e
  simpa [List.map_drop] using e
set_option maxHeartbeats 1000000 in
set_option maxRecDepth 100000 in
theorem dwD1 (a : Act) (w : World) (h : Frm 95 a) (Q : Exit → Act → World → Prop) (b : Nat) (s : S8) (x : By) (nx ln : Nat) (v : Value) (p : By)
    (hD : Dig w b s x nx ln) (hp : Rd w v p) (h0 : 0 < p.length) (h64 : p.length < 64) (g0 : G a 0 = .pointer (some ⟨b, 0, none⟩)) (g1 : G a 1 = v) (hQ : ∀ a' w', DD a w b s x nx ln p a' w' → Q .normal a' w') :
    (part (bodyOf Try.f100) [true, true, true, true, true, false]).wp Try.prog Q a w := by
  have HP := Lib.hid hp
  obtain ⟨q, cap, hv, hcap, hmax, hrd⟩ := hp
  subst hv
  have hl : (0 : Int) < p.length := by omega
  conv => arg 2; whnf
  rw [lit95 a h]
  simp only [g0, g1]
  have HD := Lib.hid hD
  have G0 := Lib.hid g0
  have H0 := Lib.hid h0
  have H64 := Lib.hid h64
  clear h g0 g1 hD hrd hmax hcap h0 h64
  obtain ⟨k, hk⟩ : ∃ k, k = p.length := ⟨_, rfl⟩
  have HKP := Lib.hid hk
  clear hk
  go_wp2_with (refine wpList_copy_by rfl (.tmp 90) (.tmp 91) rfl b 8 64 64 _ p _ _ k (by have := HKP.out; have := H64.out; omega) rfl rfl HP.out HD.out.row (by rw [digCells_length, HD.out.len]; omega) ?_; intro w2 H2; have D2 := dig_lay0 HD.out HKP.out H64.out H2; have d72 := D2.nx; have f72 := D2.row.free 72; have HD2 := Lib.hid D2; clear D2)
  refine ⟨rfl, ⟨(G0.out).symm, rfl, rfl, trivial⟩, H2.out.2.trans (Tch.setCell _ _ _ (by simp)), ?_⟩
  rw [if_neg (by intro e; have := H0.out; rw [e] at this; simp at this), ← HKP.out]
  exact HD2.out.setNx k
end Go.Proofs.Ytgomodhhomekpaa
