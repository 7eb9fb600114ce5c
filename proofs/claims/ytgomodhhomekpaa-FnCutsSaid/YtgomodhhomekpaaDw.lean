/-
  Write of SHA-256's digest.
-/
import Derived.Test.YtgomodhhomekpaaDg
namespace Go.Proofs.Ytgomodhhomekpaa
open Go.RowKit Pu Ar
/-- The kept bytes are filled up first. -/
def DB (kt : List UInt32) (a : Act) (w : World) (b : Nat) (s : S8) (x : By) (nx ln : Nat) (v : Value) (p : By) (a' : Act) (w' : World) : Prop :=
  Frm 95 a' ∧ Same [0, 4, 5] a a' ∧ Tch [b] w w' ∧ G a' 1 = cut v (min p.length (64 - nx)) ∧
  (if nx + p.length < 64 then Dig w' b s (lay x nx p) (nx + p.length) ln else Dig w' b (blocks kt s (lay x nx (p.take (64 - nx)))) (lay x nx (p.take (64 - nx))) 0 ln)
set_option maxHeartbeats 1000000 in
set_option maxRecDepth 100000 in
theorem dwB1 (kt : List UInt32) (a : Act) (w : World) (h : Frm 95 a) (Q : Exit → Act → World → Prop) (b : Nat) (s : S8) (x : By) (nx ln : Nat) (v : Value) (p : By)
    (hD : Dig w b s x nx ln) (hnx : 0 < nx) (hp : Rd w v p) (hn : Nm v) (hoff : Off [b] v) (hlt : nx + p.length < 64)
    (g0 : G a 0 = .pointer (some ⟨b, 0, none⟩)) (g1 : G a 1 = v) (hQ : ∀ a' w', DB kt a w b s x nx ln v p a' w' → Q .normal a' w') :
    (part (bodyOf Try.f100) [true, true, true, false]).wp Try.prog Q a w := by
  have c72 := hD.nx
  have hlen := hD.len
  obtain ⟨k, hk⟩ : ∃ k, k = min p.length (64 - nx) := ⟨_, rfl⟩
  have hkp : k = p.length := by omega
  obtain ⟨q, cap, hv, hcap, hmax, hrd⟩ := hp
  have hp : Rd w v p := ⟨q, cap, hv, hcap, hmax, hrd⟩
  have hi1 : (nx : Int) ≤ 64 := by omega
  have hi2 : (k : Int) ≤ 64 := by omega
  have hi3 : ((nx : Int) + k == 64) = false := by rw [beq_eq_false_iff_ne]; omega
  have hi4 : k ≤ p.length := by omega
  have hi7 : nx < 64 := by omega
  conv => arg 2; whnf
  rw [lit95 a h]
  have hsl := fun w => run_cut w v p.length cap k q hv hn (by omega) hcap
  clear hv
  simp only [g0, g1]
  have HD := Lib.hid hD
  have HP := Lib.hid hp
  have HO := Lib.hid hoff
  have HL := Lib.hid hlen
  have Hk := Lib.hid hk
  have HKP := Lib.hid hkp
  have HLT := Lib.hid hlt
  have G0 := Lib.hid g0
  clear h hD hp hoff hlen hk g0 g1 hrd hkp hlt hn hmax hcap
  go_wp2
  refine wp_region_quiet_tail 9 (by kernel_rfl) (by kernel_rfl) ?_
  simp only [List.take_succ_cons, List.take_zero, List.drop_succ_cons, List.drop_zero]
  repeat (go_big_quiet_step (fail))
  refine wpQuiet_nil ?_
  refine wpList_copy_by rfl (.tmp 31) (.tmp 32) rfl b (8 + nx) (64 - nx) (64 - nx) _ p _ _ k Hk.out rfl rfl (HP.out.tch (Tch.drewN w 1) HO.out) (HD.out.row.drewN 1) (by rw [digCells_length, HL.out]; omega) ?_
  intro w2 H2
  have D2 : Dig w2 b s (lay x nx p) nx ln := by
    have e := H2.out.1
    rw [HKP.out, List.take_length, digCells_lay s x nx ln p (by have := HLT.out; have := HL.out; omega)] at e
    exact ⟨e, by rw [lay_length _ _ _ (by have := HLT.out; have := HL.out; omega), HL.out]⟩
  have d72 := D2.nx
  have f72 := D2.row.free 72
  have HD2 := Lib.hid D2
  clear D2 c72
  go_wp2
  refine ⟨⟨rfl, rfl⟩, ⟨(G0.out).symm, rfl, rfl, trivial⟩, ?_, by rw [← Hk.out]; rfl, ?_⟩
  · exact (Tch.drewN w 1).trans (H2.out.2.trans (Tch.setCell _ _ _ (by simp)))
  · rw [if_pos HLT.out, ← HKP.out]
    exact HD2.out.setNx (nx + k)
set_option maxHeartbeats 1000000 in
set_option maxRecDepth 100000 in
theorem dwB2 (kt : List UInt32) (a : Act) (w : World) (h : Frm 95 a) (Q : Exit → Act → World → Prop) (b : Nat) (s : S8) (x : By) (nx ln : Nat) (v : Value) (p : By) (hK : KIs w kt) (hnx64 : nx < 64)
    (hD : Dig w b s x nx ln) (hnx : 0 < nx) (hp : Rd w v p) (hn : Nm v) (hoff : Off [b] v) (hlt : 64 ≤ nx + p.length)
    (g0 : G a 0 = .pointer (some ⟨b, 0, none⟩)) (g1 : G a 1 = v) (hQ : ∀ a' w', DB kt a w b s x nx ln v p a' w' → Q .normal a' w') :
    (part (bodyOf Try.f100) [true, true, true, false]).wp Try.prog Q a w := by
  have c72 := hD.nx
  have hlen := hD.len
  obtain ⟨k, hk⟩ : ∃ k, k = min p.length (64 - nx) := ⟨_, rfl⟩
  have hkp : nx + k = 64 := by omega
  obtain ⟨q, cap, hv, hcap, hmax, hrd⟩ := hp
  have hp : Rd w v p := ⟨q, cap, hv, hcap, hmax, hrd⟩
  have hi1 : (nx : Int) ≤ 64 := by omega
  have hi2 : (k : Int) ≤ 64 := by omega
  have hi3 : ((nx : Int) + k == 64) = true := by rw [beq_iff_eq]; omega
  have hi4 : k ≤ p.length := by omega
  have HK0 := Lib.hid hK
  have hKb : 0 ≠ b := fun e => Row.ne hD.row hK.2 (by decide) e.symm
  have HKB := Lib.hid hKb
  clear hK hKb
  conv => arg 2; whnf
  rw [lit95 a h]
  have hsl := fun w => run_cut w v p.length cap k q hv hn (by omega) hcap
  clear hv
  simp only [g0, g1]
  have HD := Lib.hid hD
  have HP := Lib.hid hp
  have HO := Lib.hid hoff
  have HL := Lib.hid hlen
  have Hk := Lib.hid hk
  have HKP := Lib.hid hkp
  have HLT := Lib.hid hlt
  have G0 := Lib.hid g0
  clear h hD hp hoff hlen hk g0 g1 hrd hkp hlt hn hmax hcap
  go_wp2
  refine wp_region_quiet_tail 9 (by kernel_rfl) (by kernel_rfl) ?_
  simp only [List.take_succ_cons, List.take_zero, List.drop_succ_cons, List.drop_zero]
  repeat (go_big_quiet_step (fail))
  refine wpQuiet_nil ?_
  refine wpList_copy_by rfl (.tmp 31) (.tmp 32) rfl b (8 + nx) (64 - nx) (64 - nx) _ p _ _ k Hk.out rfl rfl (HP.out.tch (Tch.drewN w 1) HO.out) (HD.out.row.drewN 1) (by rw [digCells_length, HL.out]; omega) ?_
  intro w2 H2
  have htk : (p.take k).length = k := by rw [List.length_take]; have := Hk.out; omega
  have D2 : Dig w2 b s (lay x nx (p.take k)) nx ln := by
    have e := H2.out.1
    have e2 := digCells_lay s x nx ln (p.take k) (by have := HKP.out; have := HL.out; omega)
    rw [htk] at e2
    rw [e2] at e
    exact ⟨e, by rw [lay_length _ _ _ (by have := HKP.out; have := HL.out; omega), HL.out]⟩
  have d72 := D2.nx
  have f72 := D2.row.free 72
  have HD2 := Lib.hid D2
  have T2 : Tch [b] w w2 := (Tch.drewN w 1).trans H2.out.2
  have HT2 := Lib.hid T2
  clear D2 c72 T2 htk
  go_wp2_with (fail)
  have HB := Lib.hid (blockC kt s b (lay x nx (p.take k)) (nx + k) ln (.slice (some ⟨b, 8, none⟩) 64 64) (lay x nx (p.take k)) (w2.setCell ⟨b, 72, none⟩ (.int .i64 (↑nx + ↑k)))
    (HK0.out.tch (HT2.out.trans (Tch.setCell _ _ _ (by simp))) (by simpa using HKB.out)) (HD2.out.setNx (nx + k)) (HD2.out.setNx (nx + k)).rd)
  refine HB.out.mono ?_
  rintro e w3 ⟨rfl, H3⟩
  have d72' := H3.out.1.nx
  have f72' := H3.out.1.row.free 72
  clear HB d72 f72
  go_wp2
  refine ⟨⟨rfl, rfl⟩, ⟨(G0.out).symm, rfl, rfl, trivial⟩, ?_, by rw [← Hk.out]; rfl, ?_⟩
  · exact HT2.out.trans ((Tch.setCell _ _ _ (by simp)).trans (H3.out.2.trans (Tch.setCell _ _ _ (by simp))))
  · have e1 : p.take (64 - nx) = p.take k := by
      have := Hk.out
      rcases Nat.le_total p.length (64 - nx) with h | h
      · rw [List.take_of_length_le h, List.take_of_length_le (by omega)]
      · congr 1; omega
    have hb : blocks kt s (lay x nx (p.take k)) = blocks kt s (lay x nx (p.take k)) := rfl
    rw [if_neg (by have := HLT.out; omega), e1]
    exact H3.out.1.setNx 0
def DB0 (a : Act) (w : World) (a' : Act) (w' : World) : Prop := Frm 95 a' ∧ Same [0, 1, 4, 5] a a' ∧ w' = w
set_option maxRecDepth 100000 in
theorem dwB0 (a : Act) (w : World) (h : Frm 95 a) (Q : Exit → Act → World → Prop) (b : Nat) (s : S8) (x : By) (ln : Nat) (hD : Dig w b s x 0 ln)
    (g0 : G a 0 = .pointer (some ⟨b, 0, none⟩)) (hQ : ∀ a' w', DB0 a w a' w' → Q .normal a' w') :
    (part (bodyOf Try.f100) [true, true, true, false]).wp Try.prog Q a w := by
  have c72 : w.cell? ⟨b, 72, none⟩ = some (.int .i64 0) := hD.nx
  conv => arg 2; whnf
  rw [lit95 a h]
  simp only [g0]
  have G0 := Lib.hid g0
  clear h g0 hD
  go_wp2
  exact ⟨⟨rfl, rfl⟩, ⟨(G0.out).symm, rfl, rfl, rfl, trivial⟩, rfl⟩
end Go.Proofs.Ytgomodhhomekpaa
