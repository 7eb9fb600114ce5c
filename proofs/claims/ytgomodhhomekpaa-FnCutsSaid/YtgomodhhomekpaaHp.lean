/-
  hmac.New: a key that is longer than a block is hashed.
-/
import Derived.Test.YtgomodhhomekpaaHn
namespace Go.Proofs.Ytgomodhhomekpaa
open Go.RowKit Pu Ar
theorem NewSt.big {w0 w : World} {hk : Pu.HK} {hv m bo so bi si ob ip : Nat} {obs ibs lin : By} {n : Int} (h : NewSt w0 w hk hv m bo so bi si ob ip obs ibs lin n) : ob < w.heap.size ∧ w0.heap.size ≤ bo ∧ w0.heap.size ≤ so ∧ w0.heap.size ≤ ip ∧ w0.heap.size ≤ ob := by
  have h0 := h.k0; have h1 := h.o1; have h2 := h.o2; have h3 := h.o3; have h4 := h.o4; have h5 := h.o5; have h6 := h.o0
  exact ⟨h.orow.lt, by omega, by omega, by omega, by omega⟩
set_option maxHeartbeats 1000000 in
set_option maxRecDepth 100000 in
theorem hnKeyD (a : Act) (w0 w : World) (h : Frm 121 a) (hk : Pu.HK) (hv m bo so bi si ob ip : Nat) (key : By) (v : Value) (n : Int)
    (st : NewSt w0 w hk hv m bo so bi si ob ip (List.replicate hk.block 0) (List.replicate hk.block 0) [] n) (ho : HIs w hk bo so []) (hr : Rd w v key) (hnm : Nm v) (hlt : ∀ b, v.ownBlock = some b → b < w0.heap.size) (hkl : key.length ≤ 1099511627776)
    (g1 : G a 1 = v) (g5 : G a 5 = .pointer (some ⟨hv, 0, none⟩)) (g7 : G a 7 = .int .i64 hk.block) :
    (part (bodyOf Try.f64) [true, true, true, true, true, true, true, true, true, true]).wp Try.prog (bodyPost Try.prog Try.f64 (HNE w0 hk key)) a w := by
  obtain ⟨vp, vc, rfl, _, _, _⟩ := id hr
  have off1 : Off [ip, ob] (.slice vp key.length vc) := by
    intro b hb hm; have := hlt b hb; have := st.big; simp only [List.mem_cons, List.not_mem_nil, or_false] at hm; omega
  have off2 : Off [bo, so] (.slice vp key.length vc) := by
    intro b hb hm; have := hlt b hb; have := st.big; simp only [List.mem_cons, List.not_mem_nil, or_false] at hm; omega
  have c0 : w.cell? ⟨hv, 0, none⟩ = some (.pointer (some ⟨m, 0, none⟩)) := by rw [st.hvr.cell]; rfl
  have c2 : w.cell? ⟨m, 2, none⟩ = some (.iface (hT hk) (.pointer (some ⟨bo, 0, none⟩))) := by rw [st.mr.cell]; rfl
  have e1 := mWrite hk
  have e2 := cWrite hk
  have e3 := mSum hk
  have e4 := cSum hk
  conv => arg 2; whnf
  rw [lit121 a h]
  simp only [g1, g5, g7]
  have ST := Lib.hid st
  have HO := Lib.hid ho
  have HR := Lib.hid hr
  have OFF1 := Lib.hid off1
  have OFF2 := Lib.hid off2
  have HNM := Lib.hid hnm
  have HKL := Lib.hid hkl
  clear h g1 g5 g7 st ho hr off1 off2 hlt hnm hkl
  refine wp_seq_k (fun K1 k1 => ?_)
  have J1 := Lib.hid k1
  clear k1
  by_cases hlen : hk.block < key.length
  · have hki : (hk.block : Int) < key.length := by exact_mod_cast hlen
    have HKK : Hid (Pu.keyOf hk key = hk.hash key) := by unfold Pu.keyOf; rw [if_pos hlen]; rfl
    clear hlen
    go_wp2_with (fail)
    refine (hWrite hk bo so [] key _ w HO.out HR.out HNM.out OFF2.out (by rw [List.nil_append]; exact HKL.out)).mono ?_
    rintro e w1 ⟨rfl, h1⟩
    have S1 : Hid (NewSt w0 w1 hk hv m bo so bi si ob ip (List.replicate hk.block 0) (List.replicate hk.block 0) [] n) := ST.out.out h1.out.2 h1.out.1
    have HO1 : Hid (HIs w1 hk bo so key) := h1.out.1
    clear h1 c0 c2 ST HO HR
    have c0 : w1.cell? ⟨hv, 0, none⟩ = some (.pointer (some ⟨m, 0, none⟩)) := by rw [S1.out.hvr.cell]; rfl
    have c2 : w1.cell? ⟨m, 2, none⟩ = some (.iface (hT hk) (.pointer (some ⟨bo, 0, none⟩))) := by rw [S1.out.mr.cell]; rfl
    go_wp2_with (fail)
    refine (hSum hk bo so key [] (.slice none 0 0) w1 HO1.out (Own.nil _) (by intro b hb; cases hb) HKL.out (by simp)).mono ?_
    rintro e w2 ⟨v2, rfl, h2⟩
    have off2 : Off [ip, ob] v2 := h2.out.fresh (by
      intro b hb; have := S1.out.big; have := S1.out.o5; simp only [List.mem_cons, List.not_mem_nil, or_false] at hb; omega)
    have S2 : Hid (NewSt w0 w2 hk hv m bo so bi si ob ip (List.replicate hk.block 0) (List.replicate hk.block 0) [] n) := S1.out.tch1 h2.out.tchNil (by simp)
    have OFF2 := Lib.hid off2
    have RD2 : Hid (Rd w2 v2 (Pu.keyOf hk key)) := by rw [HKK.out]; exact h2.out.1.rd
    clear h2 off2 S1 HO1 c0 c2
    go_wp2
    refine J1.out _ _ ?_
    exact hnTailD _ w0 w2 ⟨rfl, rfl⟩ hk hv m bo so bi si ob ip key _ n S2.out RD2.out OFF2.out rfl rfl
  · have hki : ¬ (hk.block : Int) < key.length := by omega
    have HKK : Hid (Pu.keyOf hk key = key) := by unfold Pu.keyOf; rw [if_neg hlen]; rfl
    clear hlen
    go_wp2
    refine J1.out _ _ ?_
    exact hnTailD _ w0 w ⟨rfl, rfl⟩ hk hv m bo so bi si ob ip key _ n ST.out (by rw [HKK.out]; exact HR.out) OFF1.out rfl rfl
set_option maxHeartbeats 1000000 in
set_option maxRecDepth 100000 in
theorem hnKeyO (a : Act) (w0 w : World) (h : Frm 121 a) (hk : Pu.HK) (hv m bo so bi si ob ip : Nat) (key : By) (v : Value) (n : Int)
    (st : NewSt w0 w hk hv m bo so bi si ob ip (List.replicate hk.block 0) (List.replicate hk.block 0) [] n) (ho : HIs w hk bo so []) (hr : Rd w v key) (hnm : Nm v) (hlt : ∀ b, v.ownBlock = some b → b < w0.heap.size) (hkl : key.length ≤ 1099511627776)
    (g1 : G a 1 = v) (g5 : G a 5 = .pointer (some ⟨hv, 0, none⟩)) (g7 : G a 7 = .int .i64 hk.block) :
    (part (bodyOf Try.f65) [true, true, true, true, true, true, true, true, true, true]).wp Try.prog (bodyPost Try.prog Try.f65 (HNE w0 hk key)) a w := by
  obtain ⟨vp, vc, rfl, _, _, _⟩ := id hr
  have off1 : Off [ip, ob] (.slice vp key.length vc) := by
    intro b hb hm; have := hlt b hb; have := st.big; simp only [List.mem_cons, List.not_mem_nil, or_false] at hm; omega
  have off2 : Off [bo, so] (.slice vp key.length vc) := by
    intro b hb hm; have := hlt b hb; have := st.big; simp only [List.mem_cons, List.not_mem_nil, or_false] at hm; omega
  have c0 : w.cell? ⟨hv, 0, none⟩ = some (.pointer (some ⟨m, 0, none⟩)) := by rw [st.hvr.cell]; rfl
  have c2 : w.cell? ⟨m, 2, none⟩ = some (.iface (hT hk) (.pointer (some ⟨bo, 0, none⟩))) := by rw [st.mr.cell]; rfl
  have e1 := mWrite hk
  have e2 := cWrite hk
  have e3 := mSum hk
  have e4 := cSum hk
  conv => arg 2; whnf
  rw [lit121 a h]
  simp only [g1, g5, g7]
  have ST := Lib.hid st
  have HO := Lib.hid ho
  have HR := Lib.hid hr
  have OFF1 := Lib.hid off1
  have OFF2 := Lib.hid off2
  have HNM := Lib.hid hnm
  have HKL := Lib.hid hkl
  clear h g1 g5 g7 st ho hr off1 off2 hlt hnm hkl
  refine wp_seq_k (fun K1 k1 => ?_)
  have J1 := Lib.hid k1
  clear k1
  by_cases hlen : hk.block < key.length
  · have hki : (hk.block : Int) < key.length := by exact_mod_cast hlen
    have HKK : Hid (Pu.keyOf hk key = hk.hash key) := by unfold Pu.keyOf; rw [if_pos hlen]; rfl
    clear hlen
    go_wp2_with (fail)
    refine (hWrite hk bo so [] key _ w HO.out HR.out HNM.out OFF2.out (by rw [List.nil_append]; exact HKL.out)).mono ?_
    rintro e w1 ⟨rfl, h1⟩
    have S1 : Hid (NewSt w0 w1 hk hv m bo so bi si ob ip (List.replicate hk.block 0) (List.replicate hk.block 0) [] n) := ST.out.out h1.out.2 h1.out.1
    have HO1 : Hid (HIs w1 hk bo so key) := h1.out.1
    clear h1 c0 c2 ST HO HR
    have c0 : w1.cell? ⟨hv, 0, none⟩ = some (.pointer (some ⟨m, 0, none⟩)) := by rw [S1.out.hvr.cell]; rfl
    have c2 : w1.cell? ⟨m, 2, none⟩ = some (.iface (hT hk) (.pointer (some ⟨bo, 0, none⟩))) := by rw [S1.out.mr.cell]; rfl
    go_wp2_with (fail)
    refine (hSum hk bo so key [] (.slice none 0 0) w1 HO1.out (Own.nil _) (by intro b hb; cases hb) HKL.out (by simp)).mono ?_
    rintro e w2 ⟨v2, rfl, h2⟩
    have off2 : Off [ip, ob] v2 := h2.out.fresh (by
      intro b hb; have := S1.out.big; have := S1.out.o5; simp only [List.mem_cons, List.not_mem_nil, or_false] at hb; omega)
    have S2 : Hid (NewSt w0 w2 hk hv m bo so bi si ob ip (List.replicate hk.block 0) (List.replicate hk.block 0) [] n) := S1.out.tch1 h2.out.tchNil (by simp)
    have OFF2 := Lib.hid off2
    have RD2 : Hid (Rd w2 v2 (Pu.keyOf hk key)) := by rw [HKK.out]; exact h2.out.1.rd
    clear h2 off2 S1 HO1 c0 c2
    go_wp2
    refine J1.out _ _ ?_
    exact hnTailO _ w0 w2 ⟨rfl, rfl⟩ hk hv m bo so bi si ob ip key _ n S2.out RD2.out OFF2.out rfl rfl
  · have hki : ¬ (hk.block : Int) < key.length := by omega
    have HKK : Hid (Pu.keyOf hk key = key) := by unfold Pu.keyOf; rw [if_neg hlen]; rfl
    clear hlen
    go_wp2
    refine J1.out _ _ ?_
    exact hnTailO _ w0 w ⟨rfl, rfl⟩ hk hv m bo so bi si ob ip key _ n ST.out (by rw [HKK.out]; exact HR.out) OFF1.out rfl rfl
end Go.Proofs.Ytgomodhhomekpaa
