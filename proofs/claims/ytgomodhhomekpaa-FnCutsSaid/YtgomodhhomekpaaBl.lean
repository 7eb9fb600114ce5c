/-
  The inner loop of blockGeneric: 64 rounds.
-/
import Derived.Test.YtgomodhhomekpaaBi
namespace Go.Proofs.Ytgomodhhomekpaa
open Go.RowKit Pu Ar
def WIs (w : World) (b : Nat) (ws : List UInt32) : Prop := ws.length = 64 ∧ Row w b 117 (ws.map vw)
theorem WIs.cell {w : World} {b : Nat} {ws : List UInt32} (h : WIs w b ws) (j : Nat) (hj : j < 64) : w.cell? ⟨b, j, none⟩ = some (.int .u32 (iw (ws.getD j 0))) := by
  rw [h.2.cell]
  simp [List.getD_eq_getElem?_getD, List.getElem?_eq_getElem (show j < ws.length by rw [h.1]; exact hj), vw]
theorem WIs.set {w : World} {b : Nat} {ws : List UInt32} (h : WIs w b ws) (j : Nat) (y : UInt32) (n : Nat) : WIs ((w.setCell ⟨b, j, none⟩ (.int .u32 (iw y))).drewN n) b (ws.set j y) := by
  refine ⟨by simp [h.1], ?_⟩
  have e := (h.2.set j (.int .u32 (iw y))).drewN n
  rwa [show List.map vw (ws.set j y) = (List.map vw ws).set j (.int .u32 (iw y)) by rw [List.map_set]; rfl]
theorem KIs.cell {w : World} {kt : List UInt32} (h : KIs w kt) (j : Nat) (hj : j < 64) : w.cell? ⟨0, j, none⟩ = some (.int .u32 (iw (kt.getD j 0))) :=
  WIs.cell (b := 0) h j hj
theorem take_next (ws : List UInt32) (blk : By) (i : Nat) (hi : i < ws.length) (h : ws.take i = sched blk i) : (ws.set i (W blk i)).take (i + 1) = sched blk (i + 1) := by
  rw [List.take_succ_eq_append_getElem (by simpa using hi)]
  simp [sched, h, W, List.take_set_of_le]
theorem ws_get (ws : List UInt32) (blk : By) (i j : Nat) (h : ws.take i = sched blk i) (hj : j < i) : ws.getD j 0 = (sched blk i).getD j 0 := by
  rw [← h]; simp [List.getD_eq_getElem?_getD, hj]

/-- The inner loop's own: after i rounds. -/
structure II (a0 : Act) (w0 : World) (kt : List UInt32) (Wb : Nat) (bs : S8) (blk : By) (i : Nat) (a : Act) (w : World) : Prop where
  frm : Frm 283 a
  same : Same bgKeep a0 a
  le : i ≤ 64
  g80 : G a 80 = .int .i64 (i : Int)
  g13 : G a 13 = .int .u32 (iw (rounds kt blk bs i).a)
  g14 : G a 14 = .int .u32 (iw (rounds kt blk bs i).b)
  g15 : G a 15 = .int .u32 (iw (rounds kt blk bs i).c)
  g16 : G a 16 = .int .u32 (iw (rounds kt blk bs i).d)
  g17 : G a 17 = .int .u32 (iw (rounds kt blk bs i).e)
  g18 : G a 18 = .int .u32 (iw (rounds kt blk bs i).f)
  g19 : G a 19 = .int .u32 (iw (rounds kt blk bs i).g)
  g20 : G a 20 = .int .u32 (iw (rounds kt blk bs i).h)
  ws : ∃ ws, WIs w Wb ws ∧ ws.take i = sched blk i
  tch : Tch [Wb] w0 w

def PX (a : Act) (w : World) (a' : Act) (w' : World) : Prop := Frm 283 a' ∧ Same [0, 1, 4, 5, 6, 7, 8, 9, 10, 11, 12, 13, 14, 15, 16, 17, 18, 19, 20, 80] a a' ∧ w' = w
set_option maxRecDepth 100000 in
theorem bgLeave (a : Act) (w : World) (h : Frm 283 a) (Q : Exit → Act → World → Prop) (g80 : G a 80 = .int .i64 64) (hQ : ∀ a' w', PX a w a' w' → Q (.exit 2) a' w') :
    (part (bodyOf Try.f112) [true, true, false, false, false, true, false, true, false, true, false, false]).wp Try.prog Q a w := by
  conv => arg 2; whnf
  rw [lit283 a h]
  simp only [g80]
  have H := Lib.hid h
  have H1 := Lib.hid g80
  clear h g80
  go_wp2
  have E1 := H1.out
  exact ⟨⟨rfl, rfl⟩, ⟨rfl, rfl, rfl, rfl, rfl, rfl, rfl, rfl, rfl, rfl, rfl, rfl, rfl, rfl, rfl, rfl, rfl, rfl, rfl, E1.symm, trivial⟩, rfl⟩

theorem bgLoop_eq : part (bodyOf Try.f112) [true, true, false, false, false, true, false, true, false, true] = .block 2 (.loop (part (bodyOf Try.f112) [true, true, false, false, false, true, false, true, false, true, false, false])) := by kernel_rfl

theorem bgInner (a : Act) (w : World) (h : Frm 283 a) (Q : Exit → Act → World → Prop) (kt : List UInt32) (pb po len cap Wb : Nat) (bs : S8) (blk : By)
    (hlen : 64 ≤ len) (hK : KIs w kt) (hWb : 0 < Wb) (hpb : pb ≠ Wb)
    (g1 : G a 1 = .slice (some ⟨pb, po, none⟩) len cap) (g4 : G a 4 = .pointer (some ⟨Wb, 0, none⟩)) (g80 : G a 80 = .int .i64 0)
    (g13 : G a 13 = .int .u32 (iw bs.a)) (g14 : G a 14 = .int .u32 (iw bs.b)) (g15 : G a 15 = .int .u32 (iw bs.c)) (g16 : G a 16 = .int .u32 (iw bs.d))
    (g17 : G a 17 = .int .u32 (iw bs.e)) (g18 : G a 18 = .int .u32 (iw bs.f)) (g19 : G a 19 = .int .u32 (iw bs.g)) (g20 : G a 20 = .int .u32 (iw bs.h))
    (hc : ∀ j, j < 64 → w.cell? ⟨pb, po + j, none⟩ = some (.int .u8 (ib (blk.getD j 0)))) (hW : ∃ ws, WIs w Wb ws)
    (hQ : ∀ a' w', II a w kt Wb bs blk 64 a' w' → Q .normal a' w') :
    (part (bodyOf Try.f112) [true, true, false, false, false, true, false, true, false, true]).wp Try.prog Q a w := by
  rw [bgLoop_eq]
  refine wp_block ?_
  refine wp_loop (fun a' w' => ∃ i, II a w kt Wb bs blk i a' w') (fun a' _ => 64 - (intOf (G a' 80)).toNat) ?_ ?_
  · obtain ⟨ws, hws⟩ := hW
    refine ⟨0, h, ?_, by omega, g80, g13, g14, g15, g16, g17, g18, g19, g20, ⟨ws, hws, by simp [sched]⟩, Tch.refl _ _⟩
    simp [Same, bgKeep]
  · rintro a1 w1 ⟨i, I⟩
    have e1 : G a1 1 = .slice (some ⟨pb, po, none⟩) len cap := (I.same.get 1 rfl).trans g1
    have e4 : G a1 4 = .pointer (some ⟨Wb, 0, none⟩) := (I.same.get 4 rfl).trans g4
    obtain ⟨ws, hws, htake⟩ := I.ws
    have hK1 : KIs w1 kt := hK.tch I.tch (by simp; omega)
    have next : ∀ y, y = W blk i → i < 64 → ∀ a' w', PR a1 w1 Wb i (rounds kt blk bs i) (kt.getD i 0) y a' w' →
        Exit.then (fun a' w' => (∃ i, II a w kt Wb bs blk i a' w') ∧ 64 - (intOf (G a' 80)).toNat < 64 - (intOf (G a1 80)).toNat) (Exit.inBlock 2 Q) .normal a' w' := by
      rintro y hy hi a' w' ⟨p1, p2, p3, p4, p5, p6, p7, p8, p9, p10, p11, n, hw'⟩
      subst hy
      refine ⟨⟨i + 1, p1, ?_, by omega, p3, p4, p5, p6, p7, p8, p9, p10, p11, ⟨ws.set i (W blk i), by rw [hw']; exact hws.set _ _ _, take_next _ _ _ (by rw [hws.1]; exact hi) htake⟩, ?_⟩, ?_⟩
      · have s := I.same
        simp only [Same, bgKeep] at s p2 ⊢
        simp only [p2, s, and_self]
      · rw [hw']
        exact I.tch.trans ((Tch.setCell w1 ⟨Wb, i, none⟩ _ (by simp)).trans (Tch.drewN _ _))
      · rw [p3, I.g80]; simp [intOf]; omega
    have hfree := hws.2.free i
    by_cases h16 : i < 16
    · have cc : ∀ j, j < 64 → w1.cell? ⟨pb, po + j, none⟩ = some (.int .u8 (ib (blk.getD j 0))) := fun j hj => I.tch.cell (hc j hj) (by simpa using hpb)
      refine bgRound16 a1 w1 I.frm _ pb po len cap Wb i _ _ _ _ _ _ h16 hlen hWb e1 e4 I.g80 I.g13 I.g14 I.g15 I.g16 I.g17 I.g18 I.g19 I.g20
        (cc (i * 4) (by omega)) (cc (i * 4 + 1) (by omega)) (cc (i * 4 + 2) (by omega)) (cc (i * 4 + 3) (by omega)) ⟨_, hws.cell i (by omega)⟩ hfree (hK1.cell i (by omega)) ?_
      refine next _ ?_ (by omega)
      simp only [W, wNext, sched_length, h16, if_true, Nat.mul_comm]
    · by_cases h64 : i < 64
      · refine bgRoundHi a1 w1 I.frm _ Wb i _ _ (ws.getD (i - 2) 0) (ws.getD (i - 7) 0) (ws.getD (i - 15) 0) (ws.getD (i - 16) 0) (by omega) h64 hWb e4 I.g80 I.g13 I.g14 I.g15 I.g16 I.g17 I.g18 I.g19 I.g20
          (hws.cell _ (by omega)) (hws.cell _ (by omega)) (hws.cell _ (by omega)) (hws.cell _ (by omega)) ⟨_, hws.cell i (by omega)⟩ hfree (hK1.cell i (by omega)) ?_
        refine next _ ?_ h64
        simp only [W, wNext, sched_length, h16, if_false]
        rw [ws_get ws blk i (i - 2) htake (by omega), ws_get ws blk i (i - 7) htake (by omega), ws_get ws blk i (i - 15) htake (by omega), ws_get ws blk i (i - 16) htake (by omega)]
      · have hi : i = 64 := by have := I.le; omega
        subst hi
        refine bgLeave a1 w1 I.frm _ I.g80 ?_
        rintro a' w' ⟨q1, q2, q3⟩
        subst q3
        simp only [Exit.then, Exit.inBlock, if_true]
        have s := I.same
        have g := I.g80
        refine hQ _ _ ⟨q1, ?_, by omega, ?_, ?_, ?_, ?_, ?_, ?_, ?_, ?_, ?_, I.ws, I.tch⟩
        · simp only [Same, bgKeep] at s q2 ⊢
          simp only [q2, s, and_self]
        · exact (q2.get 80 rfl).trans I.g80
        · exact (q2.get 13 rfl).trans I.g13
        · exact (q2.get 14 rfl).trans I.g14
        · exact (q2.get 15 rfl).trans I.g15
        · exact (q2.get 16 rfl).trans I.g16
        · exact (q2.get 17 rfl).trans I.g17
        · exact (q2.get 18 rfl).trans I.g18
        · exact (q2.get 19 rfl).trans I.g19
        · exact (q2.get 20 rfl).trans I.g20
end Go.Proofs.Ytgomodhhomekpaa
