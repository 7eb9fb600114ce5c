/-
  spec.shaBlock: the rounds, and what they are added to.
-/
import Derived.Test.YtgomodhhomekpaaDoorM4
import Derived.Test.YtgomodhhomekpaaDoorZa
namespace Go.Proofs.YtgomodhhomekpaaDoor
open Go.RowKit Pu Ar
def s8w (s : S8) : List UInt32 := [s.a, s.b, s.c, s.d, s.e, s.f, s.g, s.h]
def s8c (s : S8) : List Value := [vw s.a, vw s.b, vw s.c, vw s.d, vw s.e, vw s.f, vw s.g, vw s.h]
def sbKeep3 : List Nat := [2, 4, 5, 10, 11]
def SB3P (a : Act) (w : World) (vk i : Nat) (s : S8) (a' : Act) (w' : World) : Prop :=
  Frm 218 a' ∧ Same sbKeep3 a a' ∧ G a' 114 = .int .i64 ((i : Int) + 1) ∧ Hid (Row w' vk 47 (s8c s) ∧ Tch [vk] w w')
set_option maxHeartbeats 1000000 in
set_option maxRecDepth 100000 in
theorem sb3Round (a : Act) (w : World) (h : Frm 218 a) (Q : Exit → Act → World → Prop) (wb kb vk i : Nat) (s : S8) (k x : UInt32)
    (hi : i < 64) (hR : Row w vk 47 (s8c s))
    (g5 : G a 5 = .pointer (some ⟨wb, 0, none⟩)) (g10 : G a 10 = .pointer (some ⟨kb, 0, none⟩)) (g11 : G a 11 = .pointer (some ⟨vk, 0, none⟩)) (g114 : G a 114 = .int .i64 (i : Int))
    (cw : w.cell? ⟨wb, i, none⟩ = some (.int .u32 (iw x))) (ck : w.cell? ⟨kb, i, none⟩ = some (.int .u32 (iw k)))
    (hQ : ∀ a' w', SB3P a w vk i (rnd s k x) a' w' → Q .normal a' w') :
    (part (bodyOf Tryd.f28) [true, true, true, true, true, true, false, true, false, false]).wp Tryd.prog Q a w := by
  have hii : (i : Int) < 64 := by omega
  have c0 : w.cell? ⟨vk, 0, none⟩ = some (.int .u32 (iw s.a)) := by rw [hR.cell]; rfl
  have c1 : w.cell? ⟨vk, 1, none⟩ = some (.int .u32 (iw s.b)) := by rw [hR.cell]; rfl
  have c2 : w.cell? ⟨vk, 2, none⟩ = some (.int .u32 (iw s.c)) := by rw [hR.cell]; rfl
  have c3 : w.cell? ⟨vk, 3, none⟩ = some (.int .u32 (iw s.d)) := by rw [hR.cell]; rfl
  have c4 : w.cell? ⟨vk, 4, none⟩ = some (.int .u32 (iw s.e)) := by rw [hR.cell]; rfl
  have c5 : w.cell? ⟨vk, 5, none⟩ = some (.int .u32 (iw s.f)) := by rw [hR.cell]; rfl
  have c6 : w.cell? ⟨vk, 6, none⟩ = some (.int .u32 (iw s.g)) := by rw [hR.cell]; rfl
  have c7 : w.cell? ⟨vk, 7, none⟩ = some (.int .u32 (iw s.h)) := by rw [hR.cell]; rfl
  have e1 := fun x => Ar.shl32_24 x
  have e2 := fun x => Ar.shl32_16 x
  have e3 := fun x => Ar.shl32_8 x
  have f1 := fun x => Ar.shr32_10 x
  have f2 := fun x => Ar.shr32_3 x
  have e4 := Ar.bits_or32
  have e5 := Ar.byte32_wrap
  have e6 := Ar.bits_xor32
  have e7 := Ar.bits_and32
  have e8 := Ar.bits_not32'
  have e9 := Ar.wrap_add32
  have e10 : IntKind.u32.signed = false := rfl
  conv => arg 2; whnf
  rw [lit218 a h]
  have H5 := Lib.hid g5
  have H10 := Lib.hid g10
  have H11 := Lib.hid g11
  have HR := Lib.hid hR
  simp only [g5, g10, g11, g114]
  clear h g5 g10 g11 g114 hR hi
  refine wp_seq_k (fun K0 k0 => ?_)
  have J0 := Lib.hid k0
  clear k0
  go_wp2
  refine J0.out _ _ ?_
  refine wp_seq_k (fun K9 k9 => ?_)
  have J9 := Lib.hid k9
  clear k9 J0
  go_wp2
  refine J9.out _ _ ?_
  refine wp_seq_k (fun K1 k1 => ?_)
  have J1 := Lib.hid k1
  clear k1 J9
  refine wp_block ?_
  refine wp_seq_k (fun K2 k2 => ?_)
  have J2 := Lib.hid k2
  clear k2
  go_wp2
  refine J2.out _ _ ?_
  refine wp_seq_k (fun K3 k3 => ?_)
  have J3 := Lib.hid k3
  clear k3 J2
  refine wp_region_quiet_lit (by kernel_rfl) (by kernel_rfl) ?_
  repeat (go_big_quiet_step ((first | (with_reducible apply Calls.quiet_of; with_reducible exact turned6 _ _) | (with_reducible apply Calls.quiet_of; with_reducible exact turned11 _ _) | (with_reducible apply Calls.quiet_of; with_reducible exact turned25 _ _))))
  refine wpQuiet_nil ?_
  intro _ hw'
  obtain ⟨nq, hw''⟩ := hw'
  subst hw''
  have RQ1 : Hid (Row (World.drewN w nq) vk 47 (s8c s)) := HR.out.drewN _
  have TQ1 : Hid (Tch [vk] w (World.drewN w nq)) := Tch.drewN _ _
  have q0 : (World.drewN w nq).cell? ⟨vk, 0, none⟩ = some (.int .u32 (iw s.a)) := c0
  have q1 : (World.drewN w nq).cell? ⟨vk, 1, none⟩ = some (.int .u32 (iw s.b)) := c1
  have q2 : (World.drewN w nq).cell? ⟨vk, 2, none⟩ = some (.int .u32 (iw s.c)) := c2
  have q3 : (World.drewN w nq).cell? ⟨vk, 3, none⟩ = some (.int .u32 (iw s.d)) := c3
  have q4 : (World.drewN w nq).cell? ⟨vk, 4, none⟩ = some (.int .u32 (iw s.e)) := c4
  have q5 : (World.drewN w nq).cell? ⟨vk, 5, none⟩ = some (.int .u32 (iw s.f)) := c5
  have q6 : (World.drewN w nq).cell? ⟨vk, 6, none⟩ = some (.int .u32 (iw s.g)) := c6
  have q7 : (World.drewN w nq).cell? ⟨vk, 7, none⟩ = some (.int .u32 (iw s.h)) := c7
  have qw : (World.drewN w nq).cell? ⟨wb, i, none⟩ = some (.int .u32 (iw x)) := cw
  have qk : (World.drewN w nq).cell? ⟨kb, i, none⟩ = some (.int .u32 (iw k)) := ck
  generalize World.drewN w nq = w1 at RQ1 TQ1 q0 q1 q2 q3 q4 q5 q6 q7 qw qk ⊢
  clear c0 c1 c2 c3 c4 c5 c6 c7 cw ck HR
  have d0 := q0
  have d1 := q1
  have d2 := q2
  have d3 := q3
  have d4 := q4
  have d5 := q5
  have d6 := q6
  have d7 := q7
  have dw := qw
  have dk := qk
  clear q0 q1 q2 q3 q4 q5 q6 q7 qw qk
  refine J3.out _ _ ?_
  refine wp_seq_k (fun K4 k4 => ?_)
  have J4 := Lib.hid k4
  clear k4 J3
  go_wp2
  refine J4.out _ _ ?_
  refine wp_seq_k (fun K5 k5 => ?_)
  have J5 := Lib.hid k5
  clear k5 J4
  refine wp_region_quiet_lit (by kernel_rfl) (by kernel_rfl) ?_
  repeat (go_big_quiet_step (fail))
  refine wpQuiet_nil ?_
  intro _ hw'
  obtain ⟨nq, hw''⟩ := hw'
  subst hw''
  have RQ2 : Hid (Row (World.drewN w1 nq) vk 47 (s8c s)) := RQ1.out.drewN _
  have TQ2 : Hid (Tch [vk] w (World.drewN w1 nq)) := TQ1.out.trans (Tch.drewN _ _)
  have q0 : (World.drewN w1 nq).cell? ⟨vk, 0, none⟩ = some (.int .u32 (iw s.a)) := d0
  have q1 : (World.drewN w1 nq).cell? ⟨vk, 1, none⟩ = some (.int .u32 (iw s.b)) := d1
  have q2 : (World.drewN w1 nq).cell? ⟨vk, 2, none⟩ = some (.int .u32 (iw s.c)) := d2
  have q3 : (World.drewN w1 nq).cell? ⟨vk, 3, none⟩ = some (.int .u32 (iw s.d)) := d3
  have q4 : (World.drewN w1 nq).cell? ⟨vk, 4, none⟩ = some (.int .u32 (iw s.e)) := d4
  have q5 : (World.drewN w1 nq).cell? ⟨vk, 5, none⟩ = some (.int .u32 (iw s.f)) := d5
  have q6 : (World.drewN w1 nq).cell? ⟨vk, 6, none⟩ = some (.int .u32 (iw s.g)) := d6
  have q7 : (World.drewN w1 nq).cell? ⟨vk, 7, none⟩ = some (.int .u32 (iw s.h)) := d7
  have qw : (World.drewN w1 nq).cell? ⟨wb, i, none⟩ = some (.int .u32 (iw x)) := dw
  have qk : (World.drewN w1 nq).cell? ⟨kb, i, none⟩ = some (.int .u32 (iw k)) := dk
  generalize World.drewN w1 nq = w2 at RQ2 TQ2 q0 q1 q2 q3 q4 q5 q6 q7 qw qk ⊢
  clear d0 d1 d2 d3 d4 d5 d6 d7 dw dk RQ1 TQ1
  have c0 := q0
  have c1 := q1
  have c2 := q2
  have c3 := q3
  have c4 := q4
  have c5 := q5
  have c6 := q6
  have c7 := q7
  have cw := qw
  have ck := qk
  clear q0 q1 q2 q3 q4 q5 q6 q7 qw qk
  refine J5.out _ _ ?_
  refine wp_seq_k (fun K6 k6 => ?_)
  have J6 := Lib.hid k6
  clear k6 J5
  refine wp_region_quiet_lit (by kernel_rfl) (by kernel_rfl) ?_
  repeat (go_big_quiet_step ((first | (with_reducible apply Calls.quiet_of; with_reducible exact turned2 _ _) | (with_reducible apply Calls.quiet_of; with_reducible exact turned13 _ _) | (with_reducible apply Calls.quiet_of; with_reducible exact turned22 _ _))))
  refine wpQuiet_nil ?_
  intro _ hw'
  obtain ⟨nq, hw''⟩ := hw'
  subst hw''
  have RQ3 : Hid (Row (World.drewN w2 nq) vk 47 (s8c s)) := RQ2.out.drewN _
  have TQ3 : Hid (Tch [vk] w (World.drewN w2 nq)) := TQ2.out.trans (Tch.drewN _ _)
  have q0 : (World.drewN w2 nq).cell? ⟨vk, 0, none⟩ = some (.int .u32 (iw s.a)) := c0
  have q1 : (World.drewN w2 nq).cell? ⟨vk, 1, none⟩ = some (.int .u32 (iw s.b)) := c1
  have q2 : (World.drewN w2 nq).cell? ⟨vk, 2, none⟩ = some (.int .u32 (iw s.c)) := c2
  have q3 : (World.drewN w2 nq).cell? ⟨vk, 3, none⟩ = some (.int .u32 (iw s.d)) := c3
  have q4 : (World.drewN w2 nq).cell? ⟨vk, 4, none⟩ = some (.int .u32 (iw s.e)) := c4
  have q5 : (World.drewN w2 nq).cell? ⟨vk, 5, none⟩ = some (.int .u32 (iw s.f)) := c5
  have q6 : (World.drewN w2 nq).cell? ⟨vk, 6, none⟩ = some (.int .u32 (iw s.g)) := c6
  have q7 : (World.drewN w2 nq).cell? ⟨vk, 7, none⟩ = some (.int .u32 (iw s.h)) := c7
  have qw : (World.drewN w2 nq).cell? ⟨wb, i, none⟩ = some (.int .u32 (iw x)) := cw
  have qk : (World.drewN w2 nq).cell? ⟨kb, i, none⟩ = some (.int .u32 (iw k)) := ck
  generalize World.drewN w2 nq = w3 at RQ3 TQ3 q0 q1 q2 q3 q4 q5 q6 q7 qw qk ⊢
  clear c0 c1 c2 c3 c4 c5 c6 c7 cw ck RQ2 TQ2
  have d0 := q0
  have d1 := q1
  have d2 := q2
  have d3 := q3
  have d4 := q4
  have d5 := q5
  have d6 := q6
  have d7 := q7
  have dw := qw
  have dk := qk
  clear q0 q1 q2 q3 q4 q5 q6 q7 qw qk
  refine J6.out _ _ ?_
  refine wp_seq_k (fun K7 k7 => ?_)
  have J7 := Lib.hid k7
  clear k7 J6
  go_wp2
  refine J7.out _ _ ?_
  go_wp2_with (refine wpList_store_row rfl 47 (.tmp 11) (.tmp 203) rfl vk ((s8c (rnd s k x)).toArray) rfl (by simp only [s8c, rnd, vw, UInt32.add_assoc]; rfl) 47 _ RQ3.out (by kernel_rfl) (by kernel_rfl) (by kernel_rfl) ?_)
  refine J1.out _ _ ?_
  go_wp2
  have E5 := H5.out
  have E10 := H10.out
  have E11 := H11.out
  refine ⟨⟨rfl, rfl⟩, ⟨rfl, rfl, E5.symm, E10.symm, E11.symm, trivial⟩, rfl, ?_, TQ3.out.trans (Tch.setRow _ _ _ (by simp))⟩
  exact setRow_heap w3 vk _ _ 47 _ RQ3.out
set_option maxRecDepth 100000 in
theorem sb3Leave (a : Act) (w : World) (h : Frm 218 a) (Q : Exit → Act → World → Prop) (g114 : G a 114 = .int .i64 64)
    (hQ : ∀ a' w', SBX sbKeep3 a w a' w' → Q (.exit 4) a' w') :
    (part (bodyOf Tryd.f28) [true, true, true, true, true, true, false, true, false, false]).wp Tryd.prog Q a w := by
  conv => arg 2; whnf
  rw [lit218 a h]
  simp only [g114]
  clear h g114
  go_wp2
  exact ⟨⟨rfl, rfl⟩, ⟨rfl, rfl, rfl, rfl, rfl, trivial⟩, rfl⟩
theorem sb3_eq : part (bodyOf Tryd.f28) [true, true, true, true, true, true, false, true, false] = .loop (part (bodyOf Tryd.f28) [true, true, true, true, true, true, false, true, false, false]) := by kernel_rfl
structure SB3I (a0 : Act) (w0 : World) (vk : Nat) (blk : By) (hs : S8) (i : Nat) (a : Act) (w : World) : Prop where
  frm : Frm 218 a
  same : Same sbKeep3 a0 a
  le : i ≤ 64
  g : G a 114 = .int .i64 (i : Int)
  row : Row w vk 47 (s8c (rounds kc blk hs i))
  tch : Tch [vk] w0 w
def SB3E (a : Act) (w : World) (vk : Nat) (s : S8) (a' : Act) (w' : World) : Prop := Frm 218 a' ∧ Same sbKeep3 a a' ∧ Hid (Row w' vk 47 (s8c s) ∧ Tch [vk] w w')
theorem sb3Loop (a : Act) (w : World) (h : Frm 218 a) (Q : Exit → Act → World → Prop) (wb kb vk : Nat) (blk : By) (hs : S8) (ws : List UInt32)
    (hW : WIs w wb ws) (ht : ws.take 64 = sched blk 64) (hKc : WIs w kb kc) (hR : Row w vk 47 (s8c hs)) (n1 : wb ≠ vk) (n2 : kb ≠ vk)
    (g5 : G a 5 = .pointer (some ⟨wb, 0, none⟩)) (g10 : G a 10 = .pointer (some ⟨kb, 0, none⟩)) (g11 : G a 11 = .pointer (some ⟨vk, 0, none⟩)) (g114 : G a 114 = .int .i64 0)
    (hQ : ∀ a' w', SB3E a w vk (rounds kc blk hs 64) a' w' → Q (.exit 4) a' w') :
    (part (bodyOf Tryd.f28) [true, true, true, true, true, true, false, true, false]).wp Tryd.prog Q a w := by
  rw [sb3_eq]
  refine wp_loop (fun a' w' => ∃ i, SB3I a w vk blk hs i a' w') (fun a' _ => 64 - (intOf (G a' 114)).toNat) ⟨0, h, by simp [Same, sbKeep3], by omega, g114, hR, Tch.refl _ _⟩ ?_
  rintro a1 w1 ⟨i, I⟩
  by_cases hi : i < 64
  · have cw := I.tch.cell (hW.cell i hi) (by simpa using n1)
    rw [ws_get ws blk 64 i ht hi, sched_get blk 64 i hi] at cw
    refine sb3Round a1 w1 I.frm _ wb kb vk i _ _ _ hi I.row ((I.same.get 5 rfl).trans g5) ((I.same.get 10 rfl).trans g10) ((I.same.get 11 rfl).trans g11) I.g cw (I.tch.cell (hKc.cell i hi) (by simpa using n2)) ?_
    rintro a' w' ⟨p1, p2, p3, p4⟩
    simp only [Exit.then]
    refine ⟨⟨i + 1, p1, ?_, by omega, by rw [p3]; push_cast; rfl, p4.out.1, I.tch.trans p4.out.2⟩, ?_⟩
    · have s := I.same
      simp only [Same, sbKeep3] at s p2 ⊢
      simp only [p2, s, and_self]
    · rw [p3, I.g]; simp [intOf]; omega
  · have hi' : i = 64 := by have := I.le; omega
    subst hi'
    refine sb3Leave a1 w1 I.frm _ I.g ?_
    rintro a' w' ⟨p1, p2, rfl⟩
    simp only [Exit.then]
    refine hQ _ _ ⟨p1, ?_, I.row, I.tch⟩
    have s := I.same
    simp only [Same, sbKeep3] at s p2 ⊢
    simp only [p2, s, and_self]
/-! ### the sum -/
def adds (T U : List UInt32) : List UInt32 := List.zipWith (· + ·) T U
theorem add_set (T U st : List UInt32) (i : Nat) (hi : i < T.length) (hU : U.length = T.length) (h : st = adds (T.take i) (U.take i) ++ T.drop i) :
    st.set i (st.getD i 0 + U.getD i 0) = adds (T.take (i + 1)) (U.take (i + 1)) ++ T.drop (i + 1) := by
  subst h
  have hl : (adds (T.take i) (U.take i)).length = i := by simp [adds]; omega
  rw [List.set_append_right _ _ (by omega)]
  have e : i - (adds (T.take i) (U.take i)).length = 0 := by omega
  have hi2 : i < U.length := by omega
  rw [e, List.drop_eq_getElem_cons hi, List.set_cons_zero, List.take_succ_eq_append_getElem hi, List.take_succ_eq_append_getElem hi2, List.getD_eq_getElem?_getD, List.getD_eq_getElem?_getD]
  rw [List.getElem?_append_right (by omega), e, List.getElem?_eq_getElem hi2]
  unfold adds
  rw [List.zipWith_append (by simp; omega)]
  simp [hi]
def sbKeep4 : List Nat := [2, 4, 11]
def SB4P (a : Act) (w : World) (hb i : Nat) (l : List UInt32) (a' : Act) (w' : World) : Prop :=
  Frm 218 a' ∧ Same sbKeep4 a a' ∧ G a' 205 = .int .i64 ((i : Int) + 1) ∧ Hid (Row w' hb 47 (l.map vw) ∧ Tch [hb] w w')
set_option maxHeartbeats 1000000 in
set_option maxRecDepth 100000 in
theorem sb4Round (a : Act) (w : World) (h : Frm 218 a) (Q : Exit → Act → World → Prop) (hb vk i : Nat) (l : List UInt32) (x y : UInt32)
    (hi : i < 8) (hl : l.length = 8) (hx : x = l.getD i 0) (hR : Row w hb 47 (l.map vw))
    (g2 : G a 2 = .pointer (some ⟨hb, 0, none⟩)) (g11 : G a 11 = .pointer (some ⟨vk, 0, none⟩)) (g205 : G a 205 = .int .i64 (i : Int))
    (cv : w.cell? ⟨vk, i, none⟩ = some (.int .u32 (iw y)))
    (hQ : ∀ a' w', SB4P a w hb i (l.set i (x + y)) a' w' → Q .normal a' w') :
    (part (bodyOf Tryd.f28) [true, true, true, true, true, true, true, false, true, false, false]).wp Tryd.prog Q a w := by
  have hii : (i : Int) < 8 := by omega
  have ch : w.cell? ⟨hb, i, none⟩ = some (.int .u32 (iw x)) := by
    rw [hR.cell, hx]; simp [List.getD_eq_getElem?_getD, List.getElem?_eq_getElem (show i < l.length by omega), vw]
  have fh := hR.free i
  have e1 := fun x => Ar.shl32_24 x
  have e2 := fun x => Ar.shl32_16 x
  have e3 := fun x => Ar.shl32_8 x
  have f1 := fun x => Ar.shr32_10 x
  have f2 := fun x => Ar.shr32_3 x
  have e4 := Ar.bits_or32
  have e5 := Ar.byte32_wrap
  have e6 := Ar.bits_xor32
  have e7 := Ar.bits_and32
  have e8 := Ar.bits_not32'
  have e9 := Ar.wrap_add32
  have e10 : IntKind.u32.signed = false := rfl
  conv => arg 2; whnf
  rw [lit218 a h]
  have H2 := Lib.hid g2
  have H11 := Lib.hid g11
  have HR := Lib.hid hR
  simp only [g2, g11, g205]
  clear h g2 g11 g205 hR hi hx hl
  refine wp_seq_k (fun K0 k0 => ?_)
  have J0 := Lib.hid k0
  clear k0
  go_wp2
  refine J0.out _ _ ?_
  refine wp_seq_k (fun K9 k9 => ?_)
  have J9 := Lib.hid k9
  clear k9 J0
  go_wp2
  refine J9.out _ _ ?_
  refine wp_seq_k (fun K1 k1 => ?_)
  have J1 := Lib.hid k1
  clear k1 J9
  refine wp_block ?_
  refine wp_seq_k (fun K2 k2 => ?_)
  have J2 := Lib.hid k2
  clear k2
  go_wp2
  refine J2.out _ _ ?_
  refine wp_region_quiet_tail 8 (by kernel_rfl) (by kernel_rfl) ?_
  simp only [List.take_succ_cons, List.take_zero, List.drop_succ_cons, List.drop_zero]
  repeat (go_big_quiet_step (fail))
  refine wpQuiet_nil ?_
  go_wp2
  generalize hW1 : (World.setCell _ _ _).drew = W1
  have R1 : Hid (Row W1 hb 47 ((l.set i (x + y)).map vw) ∧ Tch [hb] w W1) := by
    rw [← hW1]
    refine ⟨?_, (Tch.setCell _ _ _ (by simp)).trans (Tch.drewN _ 1)⟩
    rw [List.map_set]
    exact (HR.out.set i _).drewN 1
  clear hW1 ch fh cv HR
  refine J1.out _ _ ?_
  go_wp2
  have E2 := H2.out
  have E11 := H11.out
  exact ⟨⟨rfl, rfl⟩, ⟨E2.symm, rfl, E11.symm, trivial⟩, rfl, R1⟩
set_option maxRecDepth 100000 in
theorem sb4Leave (a : Act) (w : World) (h : Frm 218 a) (Q : Exit → Act → World → Prop) (g205 : G a 205 = .int .i64 8)
    (hQ : ∀ a' w', SBX sbKeep4 a w a' w' → Q (.exit 6) a' w') :
    (part (bodyOf Tryd.f28) [true, true, true, true, true, true, true, false, true, false, false]).wp Tryd.prog Q a w := by
  conv => arg 2; whnf
  rw [lit218 a h]
  simp only [g205]
  clear h g205
  go_wp2
  exact ⟨⟨rfl, rfl⟩, ⟨rfl, rfl, rfl, trivial⟩, rfl⟩
theorem sb4_eq : part (bodyOf Tryd.f28) [true, true, true, true, true, true, true, false, true, false] = .loop (part (bodyOf Tryd.f28) [true, true, true, true, true, true, true, false, true, false, false]) := by kernel_rfl
structure SB4I (a0 : Act) (w0 : World) (hb : Nat) (T U : List UInt32) (i : Nat) (a : Act) (w : World) : Prop where
  frm : Frm 218 a
  same : Same sbKeep4 a0 a
  le : i ≤ 8
  g : G a 205 = .int .i64 (i : Int)
  row : Row w hb 47 ((adds (T.take i) (U.take i) ++ T.drop i).map vw)
  tch : Tch [hb] w0 w
def SB4E (a : Act) (w : World) (hb : Nat) (l : List UInt32) (a' : Act) (w' : World) : Prop := Frm 218 a' ∧ Same sbKeep4 a a' ∧ Hid (Row w' hb 47 (l.map vw) ∧ Tch [hb] w w')
theorem sb4Loop (a : Act) (w : World) (h : Frm 218 a) (Q : Exit → Act → World → Prop) (hb vk : Nat) (T U : List UInt32) (hT : T.length = 8) (hU : U.length = 8)
    (hR : Row w hb 47 (T.map vw)) (hV : Row w vk 47 (U.map vw)) (hn : vk ≠ hb)
    (g2 : G a 2 = .pointer (some ⟨hb, 0, none⟩)) (g11 : G a 11 = .pointer (some ⟨vk, 0, none⟩)) (g205 : G a 205 = .int .i64 0)
    (hQ : ∀ a' w', SB4E a w hb (adds T U) a' w' → Q (.exit 6) a' w') :
    (part (bodyOf Tryd.f28) [true, true, true, true, true, true, true, false, true, false]).wp Tryd.prog Q a w := by
  rw [sb4_eq]
  refine wp_loop (fun a' w' => ∃ i, SB4I a w hb T U i a' w') (fun a' _ => 8 - (intOf (G a' 205)).toNat) ⟨0, h, by simp [Same, sbKeep4], by omega, g205, by simpa [adds] using hR, Tch.refl _ _⟩ ?_
  rintro a1 w1 ⟨i, I⟩
  by_cases hi : i < 8
  · have hl : (adds (T.take i) (U.take i) ++ T.drop i).length = 8 := by simp [adds]; omega
    have cv : w1.cell? ⟨vk, i, none⟩ = some (.int .u32 (iw (U.getD i 0))) := by
      refine I.tch.cell ?_ (by simpa using hn)
      rw [hV.cell]; simp [List.getD_eq_getElem?_getD, List.getElem?_eq_getElem (show i < U.length by omega), vw]
    refine sb4Round a1 w1 I.frm _ hb vk i _ _ _ hi hl rfl I.row ((I.same.get 2 rfl).trans g2) ((I.same.get 11 rfl).trans g11) I.g cv ?_
    rintro a' w' ⟨p1, p2, p3, p4⟩
    simp only [Exit.then]
    have r := p4.out.1
    rw [add_set T U _ i (by omega) (by omega) rfl] at r
    refine ⟨⟨i + 1, p1, ?_, by omega, by rw [p3]; push_cast; rfl, r, I.tch.trans p4.out.2⟩, ?_⟩
    · have s := I.same
      simp only [Same, sbKeep4] at s p2 ⊢
      simp only [p2, s, and_self]
    · rw [p3, I.g]; simp [intOf]; omega
  · have hi' : i = 8 := by have := I.le; omega
    subst hi'
    refine sb4Leave a1 w1 I.frm _ I.g ?_
    rintro a' w' ⟨p1, p2, rfl⟩
    simp only [Exit.then]
    have r := I.row
    rw [List.take_of_length_le (Nat.le_of_eq hT), List.take_of_length_le (Nat.le_of_eq hU), List.drop_of_length_le (Nat.le_of_eq hT), List.append_nil] at r
    refine hQ _ _ ⟨p1, ?_, r, I.tch⟩
    have s := I.same
    simp only [Same, sbKeep4] at s p2 ⊢
    simp only [p2, s, and_self]
end Go.Proofs.YtgomodhhomekpaaDoor
