/-
  blockGeneric: what stands around the inner loop.
-/
import Derived.Test.YtgomodhhomekpaaBl
namespace Go.Proofs.Ytgomodhhomekpaa
open Go.RowKit Pu Ar
def lenOf : Value → Nat | .slice _ n _ => n | _ => 0
def boKeep : List Nat := [0, 1, 4, 5, 6, 7, 8, 9, 10, 11, 12]
def PS (l : List Nat) (a : Act) (w : World) (a' : Act) (w' : World) : Prop := Frm 283 a' ∧ Same l a a' ∧ w' = w
set_option maxRecDepth 100000 in
theorem boTestYes (a : Act) (w : World) (h : Frm 283 a) (Q : Exit → Act → World → Prop) (p : Option Addr) (len cap : Nat) (hlen : 64 ≤ len)
    (g1 : G a 1 = .slice p len cap) (hQ : ∀ a' w', PS boKeep a w a' w' → Q .normal a' w') :
    (part (bodyOf Try.f112) [true, true, false, false, false, false]).wp Try.prog Q a w := by
  conv => arg 2; whnf
  rw [lit283 a h]
  simp only [g1]
  have H1 := Lib.hid g1
  clear h g1
  go_wp2
  have E1 := H1.out
  exact ⟨⟨rfl, rfl⟩, ⟨rfl, E1.symm, rfl, rfl, rfl, rfl, rfl, rfl, rfl, rfl, rfl, trivial⟩, rfl⟩
set_option maxRecDepth 100000 in
theorem boTestNo (a : Act) (w : World) (h : Frm 283 a) (Q : Exit → Act → World → Prop) (p : Option Addr) (len cap : Nat) (hlen : len < 64)
    (g1 : G a 1 = .slice p len cap) (hQ : ∀ a' w', PS boKeep a w a' w' → Q (.exit 0) a' w') :
    (part (bodyOf Try.f112) [true, true, false, false, false, false]).wp Try.prog Q a w := by
  conv => arg 2; whnf
  rw [lit283 a h]
  simp only [g1]
  have H1 := Lib.hid g1
  clear h g1
  go_wp2
  have E1 := H1.out
  exact ⟨⟨rfl, rfl⟩, ⟨rfl, E1.symm, rfl, rfl, rfl, rfl, rfl, rfl, rfl, rfl, rfl, trivial⟩, rfl⟩
def PL (a : Act) (w : World) (a' : Act) (w' : World) : Prop := Frm 283 a' ∧ Same boKeep a a' ∧ w' = w ∧ G a' 13 = G a 5 ∧ G a' 14 = G a 6 ∧ G a' 15 = G a 7 ∧ G a' 16 = G a 8 ∧ G a' 17 = G a 9 ∧ G a' 18 = G a 10 ∧ G a' 19 = G a 11 ∧ G a' 20 = G a 12
set_option maxRecDepth 100000 in
theorem boLetters (a : Act) (w : World) (h : Frm 283 a) (Q : Exit → Act → World → Prop) (hQ : ∀ a' w', PL a w a' w' → Q .normal a' w') :
    (part (bodyOf Try.f112) [true, true, false, false, false, true, false, false]).wp Try.prog Q a w := by
  conv => arg 2; whnf
  rw [lit283 a h]
  clear h
  go_wp2
  exact ⟨⟨rfl, rfl⟩, ⟨rfl, rfl, rfl, rfl, rfl, rfl, rfl, rfl, rfl, rfl, rfl, trivial⟩, rfl, rfl, rfl, rfl, rfl, rfl, rfl, rfl, rfl⟩
def PZ (a : Act) (w : World) (a' : Act) (w' : World) : Prop := Frm 283 a' ∧ Same [0, 1, 4, 5, 6, 7, 8, 9, 10, 11, 12, 13, 14, 15, 16, 17, 18, 19, 20] a a' ∧ w' = w ∧ G a' 80 = .int .i64 0
set_option maxRecDepth 100000 in
theorem boZero (a : Act) (w : World) (h : Frm 283 a) (Q : Exit → Act → World → Prop) (hQ : ∀ a' w', PZ a w a' w' → Q .normal a' w') :
    (part (bodyOf Try.f112) [true, true, false, false, false, true, false, true, false, false]).wp Try.prog Q a w := by
  conv => arg 2; whnf
  rw [lit283 a h]
  clear h
  go_wp2
  exact ⟨⟨rfl, rfl⟩, ⟨rfl, rfl, rfl, rfl, rfl, rfl, rfl, rfl, rfl, rfl, rfl, rfl, rfl, rfl, rfl, rfl, rfl, rfl, rfl, trivial⟩, rfl, rfl⟩
def PE (a : Act) (w : World) (v1 : Value) (s : S8) (a' : Act) (w' : World) : Prop :=
  Frm 283 a' ∧ Same [0, 4] a a' ∧ w' = w ∧ G a' 1 = v1 ∧ G a' 5 = .int .u32 (iw s.a) ∧ G a' 6 = .int .u32 (iw s.b) ∧ G a' 7 = .int .u32 (iw s.c) ∧ G a' 8 = .int .u32 (iw s.d) ∧
  G a' 9 = .int .u32 (iw s.e) ∧ G a' 10 = .int .u32 (iw s.f) ∧ G a' 11 = .int .u32 (iw s.g) ∧ G a' 12 = .int .u32 (iw s.h)
set_option maxHeartbeats 1000000 in
set_option maxRecDepth 100000 in
theorem boEnd (a : Act) (w : World) (h : Frm 283 a) (Q : Exit → Act → World → Prop) (pb po len cap : Nat) (s r : S8) (hlen : 64 ≤ len) (hcap : len ≤ cap) (hmax : cap ≤ 9223372036854775807)
    (g1 : G a 1 = .slice (some ⟨pb, po, none⟩) len cap)
    (g5 : G a 5 = .int .u32 (iw s.a)) (g6 : G a 6 = .int .u32 (iw s.b)) (g7 : G a 7 = .int .u32 (iw s.c)) (g8 : G a 8 = .int .u32 (iw s.d))
    (g9 : G a 9 = .int .u32 (iw s.e)) (g10 : G a 10 = .int .u32 (iw s.f)) (g11 : G a 11 = .int .u32 (iw s.g)) (g12 : G a 12 = .int .u32 (iw s.h))
    (g13 : G a 13 = .int .u32 (iw r.a)) (g14 : G a 14 = .int .u32 (iw r.b)) (g15 : G a 15 = .int .u32 (iw r.c)) (g16 : G a 16 = .int .u32 (iw r.d))
    (g17 : G a 17 = .int .u32 (iw r.e)) (g18 : G a 18 = .int .u32 (iw r.f)) (g19 : G a 19 = .int .u32 (iw r.g)) (g20 : G a 20 = .int .u32 (iw r.h))
    (hQ : ∀ a' w', PE a w (.slice (some ⟨pb, if cap = 64 then po else po + 64, none⟩) (len - 64) (cap - 64)) (s.add r) a' w' → Q .normal a' w') :
    (part (bodyOf Try.f112) [true, true, false, false, false, true, false, true, true]).wp Try.prog Q a w := by
  have e9 := Ar.wrap_add32
  conv => arg 2; whnf
  rw [lit283 a h]
  simp only [g1, g5, g6, g7, g8, g9, g10, g11, g12, g13, g14, g15, g16, g17, g18, g19, g20]
  clear h g1 g5 g6 g7 g8 g9 g10 g11 g12 g13 g14 g15 g16 g17 g18 g19 g20
  by_cases hc : cap = 64
  · subst hc
    obtain rfl : len = 64 := by omega
    go_wp2
    exact ⟨⟨rfl, rfl⟩, ⟨rfl, rfl, trivial⟩, rfl, rfl, rfl, rfl, rfl, rfl, rfl, rfl, rfl, rfl⟩
  · rw [if_neg hc] at hQ
    have h64 : 64 < cap := by omega
    clear hc
    go_wp2
    exact ⟨⟨rfl, rfl⟩, ⟨rfl, rfl, trivial⟩, rfl, rfl, rfl, rfl, rfl, rfl, rfl, rfl, rfl, rfl⟩
theorem boBody_eq : part (bodyOf Try.f112) [true, true, false, false] = .loop (.seq (part (bodyOf Try.f112) [true, true, false, false, false, false]) (.block 1 (.seq (part (bodyOf Try.f112) [true, true, false, false, false, true, false, false])
    (.seq (.seq (part (bodyOf Try.f112) [true, true, false, false, false, true, false, true, false, false]) (part (bodyOf Try.f112) [true, true, false, false, false, true, false, true, false, true])) (part (bodyOf Try.f112) [true, true, false, false, false, true, false, true, true]))))) := by kernel_rfl
/-- The outer loop's own: after n blocks. -/
structure OI (a0 : Act) (w0 : World) (kt : List UInt32) (Wb : Nat) (s : S8) (l : By) (n : Nat) (a : Act) (w : World) : Prop where
  frm : Frm 283 a
  same : Same [0, 4] a0 a
  le : 64 * n ≤ l.length
  rd : Rd w (G a 1) (l.drop (64 * n))
  off : lenOf (G a 1) ≠ 0 → Off [Wb] (G a 1)
  g5 : G a 5 = .int .u32 (iw (blocksN kt n s l).a)
  g6 : G a 6 = .int .u32 (iw (blocksN kt n s l).b)
  g7 : G a 7 = .int .u32 (iw (blocksN kt n s l).c)
  g8 : G a 8 = .int .u32 (iw (blocksN kt n s l).d)
  g9 : G a 9 = .int .u32 (iw (blocksN kt n s l).e)
  g10 : G a 10 = .int .u32 (iw (blocksN kt n s l).f)
  g11 : G a 11 = .int .u32 (iw (blocksN kt n s l).g)
  g12 : G a 12 = .int .u32 (iw (blocksN kt n s l).h)
  ws : ∃ ws, WIs w Wb ws
  tch : Tch [Wb] w0 w
theorem blocksN_succ (kt : List UInt32) (n : Nat) (s : S8) (l : By) : blocksN kt (n + 1) s l = comp kt (blocksN kt n s l) ((l.drop (64 * n)).take 64) := by
  rw [blocksN_add]; rfl
theorem sched_take (l : By) : ∀ n, n ≤ 64 → sched (l.take 64) n = sched l n := by
  intro n
  induction n with
  | zero => intro _; rfl
  | succ n ih =>
    intro hn
    have g : ∀ j, j < 64 → (l.take 64).getD j 0 = l.getD j 0 := fun j hj => by simp [List.getD_eq_getElem?_getD, hj]
    have e : wNext (sched l n) (l.take 64) = wNext (sched l n) l := by
      unfold wNext
      rw [sched_length]
      by_cases h16 : n < 16
      · rw [if_pos h16, if_pos h16, g _ (by omega), g _ (by omega), g _ (by omega), g _ (by omega)]
      · rw [if_neg h16, if_neg h16]
    simp only [sched, ih (by omega), e]
theorem rounds_take (kt : List UInt32) (s : S8) (l : By) : ∀ n, n ≤ 64 → rounds kt (l.take 64) s n = rounds kt l s n := by
  intro n
  induction n with
  | zero => intro _; rfl
  | succ n ih =>
    intro hn
    have e := sched_take l (n + 1) hn
    have e1 := sched_get (l.take 64) (n + 1) n (by omega)
    have e2 := sched_get l (n + 1) n (by omega)
    rw [e] at e1
    have e3 : W (l.take 64) n = W l n := e1.symm.trans e2
    simp only [rounds, ih (by omega), e3]
theorem off_of {b : Nat} {a : Addr} {len cap : Nat} (h : Off [b] (.slice (some a) len cap)) : a.block ≠ b := by
  have := h a.block rfl
  simpa using this
theorem bo (a : Act) (w : World) (Q : Exit → Act → World → Prop) (kt : List UInt32) (Wb : Nat) (s : S8) (l : By) (hK : KIs w kt) (hWb : 0 < Wb) (g4 : G a 4 = .pointer (some ⟨Wb, 0, none⟩)) (h : OI a w kt Wb s l 0 a w)
    (hQ : ∀ a' w', OI a w kt Wb s l (l.length / 64) a' w' → Q (.exit 0) a' w') :
    (part (bodyOf Try.f112) [true, true, false, false]).wp Try.prog Q a w := by
  rw [boBody_eq]
  refine wp_loop (fun a' w' => ∃ n, OI a w kt Wb s l n a' w') (fun a' _ => lenOf (G a' 1)) ⟨0, h⟩ ?_
  rintro a1 w1 ⟨n, I⟩
  obtain ⟨p, cap, hv, hcap, hmax, hrd⟩ := I.rd
  unfold maxLen at hmax
  have hll : (l.drop (64 * n)).length = l.length - 64 * n := by simp
  by_cases h64 : 64 ≤ (l.drop (64 * n)).length
  · obtain ⟨pb, po, rfl, hcell⟩ : ∃ pb po, p = some ⟨pb, po, none⟩ ∧ ∀ i x, (l.drop (64 * n))[i]? = some x → w1.cell? ⟨pb, po + i, none⟩ = some (vb x) := by
      rcases hrd with h | h
      · rw [h] at h64; simp at h64
      · exact h
    have hpb : pb ≠ Wb := by have := I.off (by rw [hv]; simp only [lenOf]; omega); rw [hv] at this; exact off_of this
    refine wp_seq ?_
    refine boTestYes a1 w1 I.frm _ _ _ _ h64 hv ?_
    rintro a2 w2 ⟨f2, s2, rfl⟩
    refine wp_block (wp_seq ?_)
    refine boLetters a2 w2 f2 _ ?_
    rintro a3 w3 ⟨f3, s3, rfl, q13, q14, q15, q16, q17, q18, q19, q20⟩
    refine wp_seq (wp_seq ?_)
    refine boZero a3 w3 f3 _ ?_
    rintro a4 w4 ⟨f4, s4, rfl, q80⟩
    have k5 : ∀ j, boKeep.contains j = true → G a4 j = G a1 j := fun j hj => by
      have h1 := s2.get j hj
      have h2 := s3.get j hj
      have h3 : G a4 j = G a3 j := s4.get j (by simp only [boKeep, List.contains_eq_mem, List.mem_cons, List.not_mem_nil, or_false, decide_eq_true_eq] at hj ⊢; omega)
      rw [h3, h2, h1]
    have l13 : ∀ j i, boKeep.contains i = true → G a3 j = G a2 i → ([0, 1, 4, 5, 6, 7, 8, 9, 10, 11, 12, 13, 14, 15, 16, 17, 18, 19, 20] : List Nat).contains j = true → G a4 j = G a1 i := fun j i hi e hj => by
      rw [s4.get j hj, e, s2.get i hi]
    refine bgInner a4 w4 f4 _ kt pb po _ cap Wb (blocksN kt n s l) (l.drop (64 * n)) h64 (hK.tch I.tch (by simp; omega)) hWb hpb ((k5 1 rfl).trans hv) ((k5 4 rfl).trans ((I.same.get 4 rfl).trans g4)) q80
      ((l13 13 5 rfl q13 rfl).trans I.g5) ((l13 14 6 rfl q14 rfl).trans I.g6) ((l13 15 7 rfl q15 rfl).trans I.g7) ((l13 16 8 rfl q16 rfl).trans I.g8)
      ((l13 17 9 rfl q17 rfl).trans I.g9) ((l13 18 10 rfl q18 rfl).trans I.g10) ((l13 19 11 rfl q19 rfl).trans I.g11) ((l13 20 12 rfl q20 rfl).trans I.g12) ?_ I.ws ?_
    · intro j hj
      refine hcell j _ ?_
      rw [List.getElem?_eq_getElem (by omega), List.getD_eq_getElem?_getD, List.getElem?_eq_getElem (by omega)]; rfl
    · intro a5 w5 J
      have m5 : ∀ j, boKeep.contains j = true → G a5 j = G a1 j := fun j hj => by rw [J.same.get j hj, k5 j hj]
      refine boEnd a5 w5 J.frm _ pb po _ cap _ (rounds kt (l.drop (64 * n)) (blocksN kt n s l) 64) h64 hcap hmax ((m5 1 rfl).trans hv) ((m5 5 rfl).trans I.g5) ((m5 6 rfl).trans I.g6) ((m5 7 rfl).trans I.g7) ((m5 8 rfl).trans I.g8)
        ((m5 9 rfl).trans I.g9) ((m5 10 rfl).trans I.g10) ((m5 11 rfl).trans I.g11) ((m5 12 rfl).trans I.g12) J.g13 J.g14 J.g15 J.g16 J.g17 J.g18 J.g19 J.g20 ?_
      rintro a6 w6 ⟨f6, s6, rfl, z1, z5, z6, z7, z8, z9, z10, z11, z12⟩
      have hnext : blocksN kt (n + 1) s l = (blocksN kt n s l).add (rounds kt (l.drop (64 * n)) (blocksN kt n s l) 64) := by
        rw [blocksN_succ, comp, rounds_take _ _ _ 64 (Nat.le_refl _)]
      rw [← hnext] at z5 z6 z7 z8 z9 z10 z11 z12
      have hdd : l.drop (64 * (n + 1)) = (l.drop (64 * n)).drop 64 := by rw [List.drop_drop]; congr 1
      simp only [Exit.then, Exit.inBlock]
      refine ⟨⟨n + 1, f6, ?_, by omega, ?_, ?_, z5, z6, z7, z8, z9, z10, z11, z12, ?_, ?_⟩, ?_⟩
      · have e1 := I.same
        have e2 := m5 0 rfl
        have e3 := m5 4 rfl
        simp only [Same] at e1 s6 ⊢
        simp only [s6, e2, e3, e1, and_self]
      · rw [z1, hdd]
        refine ⟨some ⟨pb, if cap = 64 then po else po + 64, none⟩, cap - 64, by rw [show ((l.drop (64 * n)).drop 64).length = (l.drop (64 * n)).length - 64 from List.length_drop], by rw [List.length_drop]; omega, by unfold maxLen; omega, ?_⟩
        by_cases hc : cap = 64
        · left
          exact List.drop_of_length_le (by omega)
        · right
          rw [if_neg hc]
          refine ⟨pb, po + 64, rfl, fun i x hx => ?_⟩
          rw [List.getElem?_drop] at hx
          have := J.tch.cell (hcell _ _ hx) (by simpa using hpb)
          rwa [show po + (64 + i) = po + 64 + i by omega] at this
      · intro _ b hb
        rw [z1] at hb
        simp only [Value.ownBlock, Option.some.injEq] at hb
        subst hb
        simpa using hpb
      · obtain ⟨ws, hws, _⟩ := J.ws
        exact ⟨ws, hws⟩
      · exact I.tch.trans J.tch
      · rw [z1, hv]; simp only [lenOf]; omega
  · refine wp_seq ?_
    refine boTestNo a1 w1 I.frm _ _ _ _ (by omega) hv ?_
    rintro a2 w2 ⟨f2, s2, rfl⟩
    have hn : n = l.length / 64 := by have := I.le; omega
    subst hn
    simp only [Exit.then]
    have k := fun j (hj : boKeep.contains j = true) => s2.get j hj
    have e1 := I.same
    refine hQ _ _ ⟨f2, ?_, I.le, ?_, ?_, ?_, ?_, ?_, ?_, ?_, ?_, ?_, ?_, I.ws, I.tch⟩
    · simp only [Same] at e1 ⊢
      simp only [k 0 rfl, k 4 rfl, e1, and_self]
    · rw [k 1 rfl]; exact I.rd
    · rw [k 1 rfl]; exact I.off
    · rw [k 5 rfl]; exact I.g5
    · rw [k 6 rfl]; exact I.g6
    · rw [k 7 rfl]; exact I.g7
    · rw [k 8 rfl]; exact I.g8
    · rw [k 9 rfl]; exact I.g9
    · rw [k 10 rfl]; exact I.g10
    · rw [k 11 rfl]; exact I.g11
    · rw [k 12 rfl]; exact I.g12
end Go.Proofs.Ytgomodhhomekpaa
