/-
  hmac.New: the key's blocks, the inner hash's first bytes.
-/
import Derived.Test.YtgomodhhomekpaaHl
namespace Go.Proofs.Ytgomodhhomekpaa
open Go.RowKit Pu Ar
theorem rd_row {w : World} {b n : Nat} {t : TypeId} {l : By} (h : Row w b t (l.map vb)) (hn : n = l.length) (hm : l.length ≤ maxLen) : Rd w (.slice (some ⟨b, 0, none⟩) n n) l := by
  subst hn
  refine ⟨_, _, rfl, Nat.le_refl _, hm, .inr ⟨b, 0, rfl, fun i y hy => ?_⟩⟩
  rw [h.cell, Nat.zero_add, List.getElem?_map, hy]; rfl
/-- hmac.New under way: the blocks in the order in which they have been made. -/
structure NewSt (w0 w : World) (hk : Pu.HK) (hv m bo so bi si ob ip : Nat) (obs ibs lin : By) (n : Int) : Prop where
  ok : hk.ok
  hvr : Row w hv 65 [.pointer (some ⟨m, 0, none⟩)]
  mr : Row w m 95 (hmCells hk (.slice (some ⟨ob, 0, none⟩) hk.block hk.block) (.slice (some ⟨ip, 0, none⟩) hk.block hk.block) bo bi false false n)
  orow : Row w ob 5 (obs.map vb)
  irow : Row w ip 5 (ibs.map vb)
  ol : obs.length = hk.block
  il : ibs.length = hk.block
  outer : ∃ lo, HIs w hk bo so lo
  inner : HIs w hk bi si lin
  tch : Tch [] w0 w
  k0 : 0 < m
  o0 : w0.heap.size ≤ m
  o1 : m < hv
  o2 : hv < bo ∧ hv < so
  o3 : bo < bi ∧ bo < si ∧ so < bi ∧ so < si
  o4 : bi < ip ∧ si < ip
  o5 : ip < ob
theorem NewSt.tch1 {w0 w w' : World} {hk : Pu.HK} {hv m bo so bi si ob ip : Nat} {obs ibs lin : By} {n : Int} {S : List Nat} (h : NewSt w0 w hk hv m bo so bi si ob ip obs ibs lin n) (k : Tch S w w') (hS : ∀ b ∈ S, ob < b) :
    NewSt w0 w' hk hv m bo so bi si ob ip obs ibs lin n := by
  have e : ∀ b, b ≤ ob → b ∉ S := fun b hb hm => by have := hS b hm; omega
  obtain ⟨lo, ho⟩ := h.outer
  have h0 := h.k0; have h1 := h.o1; have h2 := h.o2; have h3 := h.o3; have h4 := h.o4; have h5 := h.o5; have h6 := h.o0
  refine ⟨h.ok, h.hvr.tch k (e _ (by omega)), h.mr.tch k (e _ (by omega)), h.orow.tch k (e _ (by omega)), h.irow.tch k (e _ (by omega)), h.ol, h.il, ⟨lo, ho.tch k (e _ (by omega)) (e _ (by omega)) (e _ (by omega))⟩,
    h.inner.tch k (e _ (by omega)) (e _ (by omega)) (e _ (by omega)), h.tch.new k ?_, h.k0, h.o0, h.o1, h.o2, h.o3, h.o4, h.o5⟩
  intro i hi; right; have := hS i hi; omega
theorem NewSt.out {w0 w w' : World} {hk : Pu.HK} {hv m bo so bi si ob ip : Nat} {obs ibs lin lo : By} {n : Int} (h : NewSt w0 w hk hv m bo so bi si ob ip obs ibs lin n) (k : Tch [bo, so] w w') (ho : HIs w' hk bo so lo) :
    NewSt w0 w' hk hv m bo so bi si ob ip obs ibs lin n := by
  have e : ∀ b, b ≠ bo → b ≠ so → b ∉ [bo, so] := fun b h1 h2 => by simp [h1, h2]
  have h0 := h.k0; have h1 := h.o1; have h2 := h.o2; have h3 := h.o3; have h4 := h.o4; have h5 := h.o5; have h6 := h.o0
  refine ⟨h.ok, h.hvr.tch k (e _ (by omega) (by omega)), h.mr.tch k (e _ (by omega) (by omega)), h.orow.tch k (e _ (by omega) (by omega)), h.irow.tch k (e _ (by omega) (by omega)), h.ol, h.il, ⟨lo, ho⟩,
    h.inner.tch k (e _ (by omega) (by omega)) (e _ (by omega) (by omega)) (e _ (by omega) (by omega)), h.tch.new k ?_, h.k0, h.o0, h.o1, h.o2, h.o3, h.o4, h.o5⟩
  intro i hi; right; simp only [List.mem_cons, List.not_mem_nil, or_false] at hi; omega
theorem NewSt.inn {w0 w w' : World} {hk : Pu.HK} {hv m bo so bi si ob ip : Nat} {obs ibs lin li : By} {n : Int} (h : NewSt w0 w hk hv m bo so bi si ob ip obs ibs lin n) (k : Tch [bi, si] w w') (hi : HIs w' hk bi si li) :
    NewSt w0 w' hk hv m bo so bi si ob ip obs ibs li n := by
  have e : ∀ b, b ≠ bi → b ≠ si → b ∉ [bi, si] := fun b h1 h2 => by simp [h1, h2]
  obtain ⟨lo, ho⟩ := h.outer
  have h0 := h.k0; have h1 := h.o1; have h2 := h.o2; have h3 := h.o3; have h4 := h.o4; have h5 := h.o5; have h6 := h.o0
  refine ⟨h.ok, h.hvr.tch k (e _ (by omega) (by omega)), h.mr.tch k (e _ (by omega) (by omega)), h.orow.tch k (e _ (by omega) (by omega)), h.irow.tch k (e _ (by omega) (by omega)), h.ol, h.il,
    ⟨lo, ho.tch k (e _ (by omega) (by omega)) (e _ (by omega) (by omega)) (e _ (by omega) (by omega))⟩, hi, h.tch.new k ?_, h.k0, h.o0, h.o1, h.o2, h.o3, h.o4, h.o5⟩
  intro i hi; right; simp only [List.mem_cons, List.not_mem_nil, or_false] at hi; omega
theorem NewSt.irows {w0 w w' : World} {hk : Pu.HK} {hv m bo so bi si ob ip : Nat} {obs ibs lin xs : By} {n : Int} (h : NewSt w0 w hk hv m bo so bi si ob ip obs ibs lin n) (k : Tch [ip] w w') (hi : Row w' ip 5 (xs.map vb)) (hx : xs.length = hk.block) :
    NewSt w0 w' hk hv m bo so bi si ob ip obs xs lin n := by
  have e : ∀ b, b ≠ ip → b ∉ [ip] := fun b h1 => by simp [h1]
  obtain ⟨lo, ho⟩ := h.outer
  have h0 := h.k0; have h1 := h.o1; have h2 := h.o2; have h3 := h.o3; have h4 := h.o4; have h5 := h.o5; have h6 := h.o0
  refine ⟨h.ok, h.hvr.tch k (e _ (by omega)), h.mr.tch k (e _ (by omega)), h.orow.tch k (e _ (by omega)), hi, h.ol, hx,
    ⟨lo, ho.tch k (e _ (by omega)) (e _ (by omega)) (e _ (by omega))⟩, h.inner.tch k (e _ (by omega)) (e _ (by omega)) (e _ (by omega)), h.tch.new k ?_, h.k0, h.o0, h.o1, h.o2, h.o3, h.o4, h.o5⟩
  intro i hi; right; simp only [List.mem_cons, List.not_mem_nil, or_false] at hi; omega
theorem NewSt.orows {w0 w w' : World} {hk : Pu.HK} {hv m bo so bi si ob ip : Nat} {obs ibs lin xs : By} {n : Int} (h : NewSt w0 w hk hv m bo so bi si ob ip obs ibs lin n) (k : Tch [ob] w w') (hi : Row w' ob 5 (xs.map vb)) (hx : xs.length = hk.block) :
    NewSt w0 w' hk hv m bo so bi si ob ip xs ibs lin n := by
  have e : ∀ b, b ≠ ob → b ∉ [ob] := fun b h1 => by simp [h1]
  obtain ⟨lo, ho⟩ := h.outer
  have h0 := h.k0; have h1 := h.o1; have h2 := h.o2; have h3 := h.o3; have h4 := h.o4; have h5 := h.o5; have h6 := h.o0
  refine ⟨h.ok, h.hvr.tch k (e _ (by omega)), h.mr.tch k (e _ (by omega)), hi, h.irow.tch k (e _ (by omega)), hx, h.il,
    ⟨lo, ho.tch k (e _ (by omega)) (e _ (by omega)) (e _ (by omega))⟩, h.inner.tch k (e _ (by omega)) (e _ (by omega)) (e _ (by omega)), h.tch.new k ?_, h.k0, h.o0, h.o1, h.o2, h.o3, h.o4, h.o5⟩
  intro i hi; right; simp only [List.mem_cons, List.not_mem_nil, or_false] at hi; omega
/-- What hmac.New hands back. -/
def HNE (w0 : World) (hk : Pu.HK) (key : By) (e : Ending) (w : World) : Prop :=
  ∃ F : HF, e = .returned (.pointer (some ⟨F.m, 0, none⟩)) ∧ Hid (MacAt w hk F (opad hk key) (ipad hk key) (ipad hk key) ∧ F.mar = false ∧ Tch [] w0 w ∧ (∀ b ∈ F.all, b = 0 ∨ w0.heap.size ≤ b))
theorem NewSt.mac {w0 w : World} {hk : Pu.HK} {hv m bo so bi si ob ip : Nat} {key : By} {n : Int} (h : NewSt w0 w hk hv m bo so bi si ob ip (opad hk key) (ipad hk key) (ipad hk key) n) : HNE w0 hk key (.returned (.pointer (some ⟨m, 0, none⟩))) w := by
  have h0 := h.k0; have h1 := h.o1; have h2 := h.o2; have h3 := h.o3; have h4 := h.o4; have h5 := h.o5; have h6 := h.o0
  have b64 := h.ok.block_le
  have hlo := h.orow.lt
  have hli := h.irow.lt
  have e1 := h.ol
  have e2 := h.il
  refine ⟨⟨m, bo, so, bi, si, .slice (some ⟨ob, 0, none⟩) hk.block hk.block, .slice (some ⟨ip, 0, none⟩) hk.block hk.block, false, false, n⟩, rfl, ⟨h.ok, h.mr, h.outer, h.inner, rd_row h.orow e1.symm (by unfold maxLen; omega), rd_row h.irow e2.symm (by unfold maxLen; omega),
    .inr ⟨_, _, _, _, rfl⟩, .inr ⟨_, _, _, _, rfl⟩, ?_, ?_, ?_, ?_, ?_, ?_, ?_⟩, rfl, h.tch, ?_⟩
  · intro b hb; simp only [Value.ownBlock, Option.some.injEq] at hb; omega
  · intro b hb; simp only [Value.ownBlock, Option.some.injEq] at hb; omega
  · refine ⟨?_, ?_, ?_, ?_⟩ <;> simp only [ne_eq] <;> omega
  · refine ⟨?_, ?_, ?_, ?_, ?_⟩ <;> simp only [ne_eq] <;> omega
  · refine ⟨?_, ?_, ?_, ?_⟩ <;> simp only [ne_eq] <;> omega
  · intro b hb; simp only [Value.ownBlock, Option.some.injEq] at hb; subst hb
    simp only [List.mem_cons, List.not_mem_nil, or_false]; omega
  · intro b hb; simp only [Value.ownBlock, Option.some.injEq] at hb; subst hb
    simp only [List.mem_cons, List.not_mem_nil, or_false]; omega
  · intro b hb
    simp only [HF.all, Value.ownBlock, Option.toList, List.cons_append, List.nil_append, List.mem_cons, List.not_mem_nil, or_false] at hb
    omega
theorem pad_cells (hk : Pu.HK) (key : By) : (Pu.keyOf hk key).map vb ++ List.replicate (hk.block - (Pu.keyOf hk key).length) (Value.int .u8 0) = (padKey hk key).map vb := by
  simp only [padKey, List.map_append, List.map_replicate]
  rfl
set_option maxHeartbeats 1000000 in
set_option maxRecDepth 100000 in
theorem hnTailD (a : Act) (w0 w : World) (h : Frm 121 a) (hk : Pu.HK) (hv m bo so bi si ob ip : Nat) (key : By) (vk : Value) (n : Int)
    (st : NewSt w0 w hk hv m bo so bi si ob ip (List.replicate hk.block 0) (List.replicate hk.block 0) [] n) (hr : Rd w vk (Pu.keyOf hk key)) (hoff : Off [ip, ob] vk)
    (g1 : G a 1 = vk) (g5 : G a 5 = .pointer (some ⟨hv, 0, none⟩)) :
    (part (bodyOf Try.f64) [true, true, true, true, true, true, true, true, true, true, true]).wp Try.prog (bodyPost Try.prog Try.f64 (HNE w0 hk key)) a w := by
  have b64 := st.ok.block_le
  have kl := keyOf_length st.ok key
  have c0 : w.cell? ⟨hv, 0, none⟩ = some (.pointer (some ⟨m, 0, none⟩)) := by rw [st.hvr.cell]; rfl
  have c1 : w.cell? ⟨m, 1, none⟩ = some (.slice (some ⟨ip, 0, none⟩) hk.block hk.block) := by rw [st.mr.cell]; rfl
  have e1 := mWrite hk
  have e2 := cWrite hk
  conv => arg 2; whnf
  rw [lit121 a h]
  simp only [g1, g5]
  have ST := Lib.hid st
  have HR := Lib.hid hr
  have HF := Lib.hid hoff
  have B64 := Lib.hid b64
  have KL := Lib.hid kl
  have I0 : Hid (Row w ip 5 (List.replicate hk.block (Value.int .u8 0))) := by have := st.irow; rwa [List.map_replicate] at this
  clear h g1 g5 st hr hoff b64 kl
  refine wp_seq_k (fun K1 k1 => ?_)
  have J1 := Lib.hid k1
  clear k1
  go_wp2_with (refine wpList_copy_by rfl _ _ rfl ip 0 hk.block hk.block vk (Pu.keyOf hk key) 5 (List.replicate hk.block (Value.int .u8 0)) (Pu.keyOf hk key).length (Nat.min_eq_left KL.out).symm rfl rfl HR.out I0.out (by simp) ?_)
  intro w1 h1
  have R1 := h1.out.1
  rw [pad_cells hk key] at R1
  have S1 : Hid (NewSt w0 w1 hk hv m bo so bi si ob ip (List.replicate hk.block 0) (padKey hk key) [] n) := ST.out.irows h1.out.2 R1 (padKey_length ST.out.ok key)
  have HR1 : Hid (Rd w1 vk (Pu.keyOf hk key)) := HR.out.tch h1.out.2 (off_sub HF.out (by simp))
  clear R1 h1 c0 c1 ST HR
  have c0 : w1.cell? ⟨hv, 0, none⟩ = some (.pointer (some ⟨m, 0, none⟩)) := by rw [S1.out.hvr.cell]; rfl
  have c1 : w1.cell? ⟨m, 0, none⟩ = some (.slice (some ⟨ob, 0, none⟩) hk.block hk.block) := by rw [S1.out.mr.cell]; rfl
  have O0 : Hid (Row w1 ob 5 (List.replicate hk.block (Value.int .u8 0))) := by have := S1.out.orow; rwa [List.map_replicate] at this
  go_wp2
  refine J1.out _ _ (wp_seq_k (fun K2 k2 => ?_))
  have J2 := Lib.hid k2
  clear k2
  go_wp2_with (refine wpList_copy_by rfl _ _ rfl ob 0 hk.block hk.block vk (Pu.keyOf hk key) 5 (List.replicate hk.block (Value.int .u8 0)) (Pu.keyOf hk key).length (Nat.min_eq_left KL.out).symm rfl rfl HR1.out O0.out (by simp) ?_)
  intro w2 h2
  have R2 := h2.out.1
  rw [pad_cells hk key] at R2
  have S2 : Hid (NewSt w0 w2 hk hv m bo so bi si ob ip (padKey hk key) (padKey hk key) [] n) := S1.out.orows h2.out.2 R2 (padKey_length S1.out.ok key)
  clear R2 h2 c0 c1 S1 HR1 HF I0 O0
  go_wp2
  have c0 : w2.cell? ⟨hv, 0, none⟩ = some (.pointer (some ⟨m, 0, none⟩)) := by rw [S2.out.hvr.cell]; rfl
  have c1 : w2.cell? ⟨m, 1, none⟩ = some (.slice (some ⟨ip, 0, none⟩) hk.block hk.block) := by rw [S2.out.mr.cell]; rfl
  refine J2.out _ _ (wp_seq_k (fun K3 k3 => ?_))
  have J3 := Lib.hid k3
  clear k3
  go_wp2
  have d1 : hv ≠ ip := by have := S2.out.o2; have := S2.out.o3; have := S2.out.o4; omega
  have d2 : m ≠ ip := by have := S2.out.o1; have := S2.out.o2; have := S2.out.o3; have := S2.out.o4; omega
  refine nlDILoop _ w2 ⟨rfl, rfl⟩ _ hv m ip hk.block (padKey hk key) (padKey_length S2.out.ok key) B64.out c0 c1 S2.out.irow d1 d2 rfl rfl rfl ?_
  rintro a3 w3 ⟨f3, s3, r3, t3⟩
  have S3 : Hid (NewSt w0 w3 hk hv m bo so bi si ob ip (padKey hk key) (ipad hk key) [] n) := S2.out.irows t3 r3 (ipad_length S2.out.ok key)
  have g1 : G a3 1 = vk := s3.get 1 rfl
  have g5 : G a3 5 = .pointer (some ⟨hv, 0, none⟩) := s3.get 5 rfl
  rw [lit121 a3 f3]
  simp only [g1, g5]
  clear f3 s3 r3 t3 c0 c1 S2 g1 g5 d1 d2
  go_wp2
  have c0 : w3.cell? ⟨hv, 0, none⟩ = some (.pointer (some ⟨m, 0, none⟩)) := by rw [S3.out.hvr.cell]; rfl
  have c1 : w3.cell? ⟨m, 0, none⟩ = some (.slice (some ⟨ob, 0, none⟩) hk.block hk.block) := by rw [S3.out.mr.cell]; rfl
  refine J3.out _ _ (wp_seq_k (fun K4 k4 => ?_))
  have J4 := Lib.hid k4
  clear k4
  go_wp2
  have d1 : hv ≠ ob := by have := S3.out.o2; have := S3.out.o3; have := S3.out.o4; have := S3.out.o5; omega
  have d2 : m ≠ ob := by have := S3.out.o1; have := S3.out.o2; have := S3.out.o3; have := S3.out.o4; have := S3.out.o5; omega
  refine nlDOLoop _ w3 ⟨rfl, rfl⟩ _ hv m ob hk.block (padKey hk key) (padKey_length S3.out.ok key) B64.out c0 c1 S3.out.orow d1 d2 rfl rfl rfl ?_
  rintro a4 w4 ⟨f4, s4, r4, t4⟩
  have S4 : Hid (NewSt w0 w4 hk hv m bo so bi si ob ip (opad hk key) (ipad hk key) [] n) := S3.out.orows t4 r4 (opad_length S3.out.ok key)
  have g5 : G a4 5 = .pointer (some ⟨hv, 0, none⟩) := s4.get 5 rfl
  rw [lit121 a4 f4]
  simp only [g5]
  clear f4 s4 r4 t4 c0 c1 S3 g5 d1 d2
  go_wp2
  have c0 : w4.cell? ⟨hv, 0, none⟩ = some (.pointer (some ⟨m, 0, none⟩)) := by rw [S4.out.hvr.cell]; rfl
  have c1 : w4.cell? ⟨m, 1, none⟩ = some (.slice (some ⟨ip, 0, none⟩) hk.block hk.block) := by rw [S4.out.mr.cell]; rfl
  have c3 : w4.cell? ⟨m, 3, none⟩ = some (.iface (hT hk) (.pointer (some ⟨bi, 0, none⟩))) := by rw [S4.out.mr.cell]; rfl
  refine J4.out _ _ (wp_seq_k (fun K5 k5 => ?_))
  have J5 := Lib.hid k5
  clear k5
  refine wp_region_quiet_tail 10 (by kernel_rfl) (by kernel_rfl) ?_
  simp only [List.take_succ_cons, List.take_zero, List.drop_succ_cons, List.drop_zero]
  repeat (go_big_quiet_step (fail))
  refine wpQuiet_nil ?_
  go_wp2_with (fail)
  have S5 : Hid (NewSt w0 w4.drew hk hv m bo so bi si ob ip (opad hk key) (ipad hk key) [] n) := S4.out.tch1 (Tch.drewN (S := []) w4 1) (by simp)
  have rd5 : Rd w4.drew (.slice (some ⟨ip, 0, none⟩) hk.block hk.block) (ipad hk key) := rd_row S5.out.irow (ipad_length S5.out.ok key).symm (by rw [ipad_length S5.out.ok key]; have := B64.out; unfold maxLen; omega)
  have of5 : Off [bi, si] (.slice (some ⟨ip, 0, none⟩) hk.block hk.block) := by
    intro b hb; simp only [Value.ownBlock, Option.some.injEq] at hb; subst hb
    have := S5.out.o4; simp only [List.mem_cons, List.not_mem_nil, or_false]; omega
  refine (hWrite hk bi si [] (ipad hk key) _ w4.drew S5.out.inner rd5 (.inr ⟨_, _, _, _, rfl⟩) of5 (by rw [List.nil_append, ipad_length S5.out.ok key]; have := B64.out; omega)).mono ?_
  rintro e w6 ⟨rfl, h6⟩
  have S6 : Hid (NewSt w0 w6 hk hv m bo so bi si ob ip (opad hk key) (ipad hk key) (ipad hk key) n) := S5.out.inn h6.out.2 h6.out.1
  clear h6 S5 S4 rd5 of5 c0 c1 c3
  have c0 : w6.cell? ⟨hv, 0, none⟩ = some (.pointer (some ⟨m, 0, none⟩)) := by rw [S6.out.hvr.cell]; rfl
  go_wp2
  refine J5.out _ _ ?_
  go_wp2
  go_ret
  exact S6.out.mac
set_option maxHeartbeats 1000000 in
set_option maxRecDepth 100000 in
theorem hnTailO (a : Act) (w0 w : World) (h : Frm 121 a) (hk : Pu.HK) (hv m bo so bi si ob ip : Nat) (key : By) (vk : Value) (n : Int)
    (st : NewSt w0 w hk hv m bo so bi si ob ip (List.replicate hk.block 0) (List.replicate hk.block 0) [] n) (hr : Rd w vk (Pu.keyOf hk key)) (hoff : Off [ip, ob] vk)
    (g1 : G a 1 = vk) (g5 : G a 5 = .pointer (some ⟨hv, 0, none⟩)) :
    (part (bodyOf Try.f65) [true, true, true, true, true, true, true, true, true, true, true]).wp Try.prog (bodyPost Try.prog Try.f65 (HNE w0 hk key)) a w := by
  have b64 := st.ok.block_le
  have kl := keyOf_length st.ok key
  have c0 : w.cell? ⟨hv, 0, none⟩ = some (.pointer (some ⟨m, 0, none⟩)) := by rw [st.hvr.cell]; rfl
  have c1 : w.cell? ⟨m, 1, none⟩ = some (.slice (some ⟨ip, 0, none⟩) hk.block hk.block) := by rw [st.mr.cell]; rfl
  have e1 := mWrite hk
  have e2 := cWrite hk
  conv => arg 2; whnf
  rw [lit121 a h]
  simp only [g1, g5]
  have ST := Lib.hid st
  have HR := Lib.hid hr
  have HF := Lib.hid hoff
  have B64 := Lib.hid b64
  have KL := Lib.hid kl
  have I0 : Hid (Row w ip 5 (List.replicate hk.block (Value.int .u8 0))) := by have := st.irow; rwa [List.map_replicate] at this
  clear h g1 g5 st hr hoff b64 kl
  refine wp_seq_k (fun K1 k1 => ?_)
  have J1 := Lib.hid k1
  clear k1
  go_wp2_with (refine wpList_copy_by rfl _ _ rfl ip 0 hk.block hk.block vk (Pu.keyOf hk key) 5 (List.replicate hk.block (Value.int .u8 0)) (Pu.keyOf hk key).length (Nat.min_eq_left KL.out).symm rfl rfl HR.out I0.out (by simp) ?_)
  intro w1 h1
  have R1 := h1.out.1
  rw [pad_cells hk key] at R1
  have S1 : Hid (NewSt w0 w1 hk hv m bo so bi si ob ip (List.replicate hk.block 0) (padKey hk key) [] n) := ST.out.irows h1.out.2 R1 (padKey_length ST.out.ok key)
  have HR1 : Hid (Rd w1 vk (Pu.keyOf hk key)) := HR.out.tch h1.out.2 (off_sub HF.out (by simp))
  clear R1 h1 c0 c1 ST HR
  have c0 : w1.cell? ⟨hv, 0, none⟩ = some (.pointer (some ⟨m, 0, none⟩)) := by rw [S1.out.hvr.cell]; rfl
  have c1 : w1.cell? ⟨m, 0, none⟩ = some (.slice (some ⟨ob, 0, none⟩) hk.block hk.block) := by rw [S1.out.mr.cell]; rfl
  have O0 : Hid (Row w1 ob 5 (List.replicate hk.block (Value.int .u8 0))) := by have := S1.out.orow; rwa [List.map_replicate] at this
  go_wp2
  refine J1.out _ _ (wp_seq_k (fun K2 k2 => ?_))
  have J2 := Lib.hid k2
  clear k2
  go_wp2_with (refine wpList_copy_by rfl _ _ rfl ob 0 hk.block hk.block vk (Pu.keyOf hk key) 5 (List.replicate hk.block (Value.int .u8 0)) (Pu.keyOf hk key).length (Nat.min_eq_left KL.out).symm rfl rfl HR1.out O0.out (by simp) ?_)
  intro w2 h2
  have R2 := h2.out.1
  rw [pad_cells hk key] at R2
  have S2 : Hid (NewSt w0 w2 hk hv m bo so bi si ob ip (padKey hk key) (padKey hk key) [] n) := S1.out.orows h2.out.2 R2 (padKey_length S1.out.ok key)
  clear R2 h2 c0 c1 S1 HR1 HF I0 O0
  go_wp2
  have c0 : w2.cell? ⟨hv, 0, none⟩ = some (.pointer (some ⟨m, 0, none⟩)) := by rw [S2.out.hvr.cell]; rfl
  have c1 : w2.cell? ⟨m, 1, none⟩ = some (.slice (some ⟨ip, 0, none⟩) hk.block hk.block) := by rw [S2.out.mr.cell]; rfl
  refine J2.out _ _ (wp_seq_k (fun K3 k3 => ?_))
  have J3 := Lib.hid k3
  clear k3
  go_wp2
  have d1 : hv ≠ ip := by have := S2.out.o2; have := S2.out.o3; have := S2.out.o4; omega
  have d2 : m ≠ ip := by have := S2.out.o1; have := S2.out.o2; have := S2.out.o3; have := S2.out.o4; omega
  refine nlOILoop _ w2 ⟨rfl, rfl⟩ _ hv m ip hk.block (padKey hk key) (padKey_length S2.out.ok key) B64.out c0 c1 S2.out.irow d1 d2 rfl rfl rfl ?_
  rintro a3 w3 ⟨f3, s3, r3, t3⟩
  have S3 : Hid (NewSt w0 w3 hk hv m bo so bi si ob ip (padKey hk key) (ipad hk key) [] n) := S2.out.irows t3 r3 (ipad_length S2.out.ok key)
  have g1 : G a3 1 = vk := s3.get 1 rfl
  have g5 : G a3 5 = .pointer (some ⟨hv, 0, none⟩) := s3.get 5 rfl
  rw [lit121 a3 f3]
  simp only [g1, g5]
  clear f3 s3 r3 t3 c0 c1 S2 g1 g5 d1 d2
  go_wp2
  have c0 : w3.cell? ⟨hv, 0, none⟩ = some (.pointer (some ⟨m, 0, none⟩)) := by rw [S3.out.hvr.cell]; rfl
  have c1 : w3.cell? ⟨m, 0, none⟩ = some (.slice (some ⟨ob, 0, none⟩) hk.block hk.block) := by rw [S3.out.mr.cell]; rfl
  refine J3.out _ _ (wp_seq_k (fun K4 k4 => ?_))
  have J4 := Lib.hid k4
  clear k4
  go_wp2
  have d1 : hv ≠ ob := by have := S3.out.o2; have := S3.out.o3; have := S3.out.o4; have := S3.out.o5; omega
  have d2 : m ≠ ob := by have := S3.out.o1; have := S3.out.o2; have := S3.out.o3; have := S3.out.o4; have := S3.out.o5; omega
  refine nlOOLoop _ w3 ⟨rfl, rfl⟩ _ hv m ob hk.block (padKey hk key) (padKey_length S3.out.ok key) B64.out c0 c1 S3.out.orow d1 d2 rfl rfl rfl ?_
  rintro a4 w4 ⟨f4, s4, r4, t4⟩
  have S4 : Hid (NewSt w0 w4 hk hv m bo so bi si ob ip (opad hk key) (ipad hk key) [] n) := S3.out.orows t4 r4 (opad_length S3.out.ok key)
  have g5 : G a4 5 = .pointer (some ⟨hv, 0, none⟩) := s4.get 5 rfl
  rw [lit121 a4 f4]
  simp only [g5]
  clear f4 s4 r4 t4 c0 c1 S3 g5 d1 d2
  go_wp2
  have c0 : w4.cell? ⟨hv, 0, none⟩ = some (.pointer (some ⟨m, 0, none⟩)) := by rw [S4.out.hvr.cell]; rfl
  have c1 : w4.cell? ⟨m, 1, none⟩ = some (.slice (some ⟨ip, 0, none⟩) hk.block hk.block) := by rw [S4.out.mr.cell]; rfl
  have c3 : w4.cell? ⟨m, 3, none⟩ = some (.iface (hT hk) (.pointer (some ⟨bi, 0, none⟩))) := by rw [S4.out.mr.cell]; rfl
  refine J4.out _ _ (wp_seq_k (fun K5 k5 => ?_))
  have J5 := Lib.hid k5
  clear k5
  refine wp_region_quiet_tail 10 (by kernel_rfl) (by kernel_rfl) ?_
  simp only [List.take_succ_cons, List.take_zero, List.drop_succ_cons, List.drop_zero]
  repeat (go_big_quiet_step (fail))
  refine wpQuiet_nil ?_
  go_wp2_with (fail)
  have S5 : Hid (NewSt w0 w4.drew hk hv m bo so bi si ob ip (opad hk key) (ipad hk key) [] n) := S4.out.tch1 (Tch.drewN (S := []) w4 1) (by simp)
  have rd5 : Rd w4.drew (.slice (some ⟨ip, 0, none⟩) hk.block hk.block) (ipad hk key) := rd_row S5.out.irow (ipad_length S5.out.ok key).symm (by rw [ipad_length S5.out.ok key]; have := B64.out; unfold maxLen; omega)
  have of5 : Off [bi, si] (.slice (some ⟨ip, 0, none⟩) hk.block hk.block) := by
    intro b hb; simp only [Value.ownBlock, Option.some.injEq] at hb; subst hb
    have := S5.out.o4; simp only [List.mem_cons, List.not_mem_nil, or_false]; omega
  refine (hWrite hk bi si [] (ipad hk key) _ w4.drew S5.out.inner rd5 (.inr ⟨_, _, _, _, rfl⟩) of5 (by rw [List.nil_append, ipad_length S5.out.ok key]; have := B64.out; omega)).mono ?_
  rintro e w6 ⟨rfl, h6⟩
  have S6 : Hid (NewSt w0 w6 hk hv m bo so bi si ob ip (opad hk key) (ipad hk key) (ipad hk key) n) := S5.out.inn h6.out.2 h6.out.1
  clear h6 S5 S4 rd5 of5 c0 c1 c3
  have c0 : w6.cell? ⟨hv, 0, none⟩ = some (.pointer (some ⟨m, 0, none⟩)) := by rw [S6.out.hvr.cell]; rfl
  go_wp2
  refine J5.out _ _ ?_
  go_wp2
  go_ret
  exact S6.out.mac
end Go.Proofs.Ytgomodhhomekpaa
