/-
  spec.shaBlock: its loops.
-/
import Derived.Test.YtgomodhhomekpaaDoorM4
namespace Go.Proofs.YtgomodhhomekpaaDoor
open Go.RowKit Pu Ar
set_option maxRecDepth 100000 in
theorem lit218 (a : Act) (h : Frm 218 a) : a = ⟨#[G a 0, G a 1, G a 2, G a 3, G a 4, G a 5, G a 6, G a 7, G a 8, G a 9, G a 10, G a 11, G a 12, G a 13, G a 14, G a 15, G a 16, G a 17, G a 18, G a 19, G a 20, G a 21, G a 22, G a 23, G a 24, G a 25, G a 26, G a 27, G a 28, G a 29, G a 30, G a 31, G a 32, G a 33, G a 34, G a 35, G a 36, G a 37, G a 38, G a 39, G a 40, G a 41, G a 42, G a 43, G a 44, G a 45, G a 46, G a 47, G a 48, G a 49, G a 50, G a 51, G a 52, G a 53, G a 54, G a 55, G a 56, G a 57, G a 58, G a 59, G a 60, G a 61, G a 62, G a 63, G a 64, G a 65, G a 66, G a 67, G a 68, G a 69, G a 70, G a 71, G a 72, G a 73, G a 74, G a 75, G a 76, G a 77, G a 78, G a 79, G a 80, G a 81, G a 82, G a 83, G a 84, G a 85, G a 86, G a 87, G a 88, G a 89, G a 90, G a 91, G a 92, G a 93, G a 94, G a 95, G a 96, G a 97, G a 98, G a 99, G a 100, G a 101, G a 102, G a 103, G a 104, G a 105, G a 106, G a 107, G a 108, G a 109, G a 110, G a 111, G a 112, G a 113, G a 114, G a 115, G a 116, G a 117, G a 118, G a 119, G a 120, G a 121, G a 122, G a 123, G a 124, G a 125, G a 126, G a 127, G a 128, G a 129, G a 130, G a 131, G a 132, G a 133, G a 134, G a 135, G a 136, G a 137, G a 138, G a 139, G a 140, G a 141, G a 142, G a 143, G a 144, G a 145, G a 146, G a 147, G a 148, G a 149, G a 150, G a 151, G a 152, G a 153, G a 154, G a 155, G a 156, G a 157, G a 158, G a 159, G a 160, G a 161, G a 162, G a 163, G a 164, G a 165, G a 166, G a 167, G a 168, G a 169, G a 170, G a 171, G a 172, G a 173, G a 174, G a 175, G a 176, G a 177, G a 178, G a 179, G a 180, G a 181, G a 182, G a 183, G a 184, G a 185, G a 186, G a 187, G a 188, G a 189, G a 190, G a 191, G a 192, G a 193, G a 194, G a 195, G a 196, G a 197, G a 198, G a 199, G a 200, G a 201, G a 202, G a 203, G a 204, G a 205, G a 206, G a 207, G a 208, G a 209, G a 210, G a 211, G a 212, G a 213, G a 214, G a 215, G a 216, G a 217], []⟩ := lit_of a h
/-- The round constants: the first bits behind the point of the cube roots of the first 64 primes. -/
def Pu.kc : List UInt32 := [1116352408, 1899447441, 3049323471, 3921009573, 961987163, 1508970993, 2453635748, 2870763221, 3624381080, 310598401, 607225278, 1426881987, 1925078388, 2162078206, 2614888103, 3248222580, 3835390401, 4022224774, 264347078, 604807628, 770255983, 1249150122, 1555081692, 1996064986, 2554220882, 2821834349, 2952996808, 3210313671, 3336571891, 3584528711, 113926993, 338241895, 666307205, 773529912, 1294757372, 1396182291, 1695183700, 1986661051, 2177026350, 2456956037, 2730485921, 2820302411, 3259730800, 3345764771, 3516065817, 3600352804, 4094571909, 275423344, 430227734, 506948616, 659060556, 883997877, 958139571, 1322822218, 1537002063, 1747873779, 1955562222, 2024104815, 2227730452, 2361852424, 2428436474, 2756734187, 3204031479, 3329325298]
theorem WIs.set' {w : World} {b : Nat} {ws : List UInt32} (h : WIs w b ws) (j : Nat) (y : UInt32) (n : Nat) : WIs ((w.drewN n).setCell ⟨b, j, none⟩ (.int .u32 (iw y))) b (ws.set j y) := by
  refine ⟨by simp [h.1], ?_⟩
  have e := (h.2.drewN n).set j (.int .u32 (iw y))
  rwa [show List.map vw (ws.set j y) = (List.map vw ws).set j (.int .u32 (iw y)) by rw [List.map_set]; rfl]
theorem WIs.drewN' {w : World} {b : Nat} {ws : List UInt32} (h : WIs w b ws) (n : Nat) : WIs (w.drewN n) b ws := ⟨h.1, h.2.drewN n⟩
def sbKeep : List Nat := [1, 2, 4, 5]
/-- Behind a word. -/
def SBP (a : Act) (w : World) (c wb i : Nat) (y : UInt32) (ws : List UInt32) (a' : Act) (w' : World) : Prop :=
  Frm 218 a' ∧ Same sbKeep a a' ∧ G a' c = .int .i64 ((i : Int) + 1) ∧ Hid (WIs w' wb (ws.set i y) ∧ Tch [wb] w w')
set_option maxHeartbeats 1000000 in
set_option maxRecDepth 100000 in
theorem sb1Round (a : Act) (w : World) (h : Frm 218 a) (Q : Exit → Act → World → Prop) (pb po len cap wb i : Nat) (ws : List UInt32) (x0 x1 x2 x3 : UInt8)
    (hi : i < 16) (hlen : 64 ≤ len) (hW : WIs w wb ws)
    (g1 : G a 1 = .slice (some ⟨pb, po, none⟩) len cap) (g5 : G a 5 = .pointer (some ⟨wb, 0, none⟩)) (g20 : G a 20 = .int .i64 (i : Int))
    (c0 : w.cell? ⟨pb, po + 4 * i, none⟩ = some (.int .u8 (ib x0))) (c1 : w.cell? ⟨pb, po + (4 * i + 1), none⟩ = some (.int .u8 (ib x1)))
    (c2 : w.cell? ⟨pb, po + (4 * i + 2), none⟩ = some (.int .u8 (ib x2))) (c3 : w.cell? ⟨pb, po + (4 * i + 3), none⟩ = some (.int .u8 (ib x3)))
    (hQ : ∀ a' w', SBP a w 20 wb i (word x0 x1 x2 x3) ws a' w' → Q .normal a' w') :
    (part (bodyOf Tryd.f28) [true, true, false, true, false, false]).wp Tryd.prog Q a w := by
  have cW := hW.cell i (by omega)
  have fW := hW.2.free i
  have hii : (i : Int) < 16 := by omega
  have hll : (64 : Int) ≤ len := by omega
  have e1 := fun x => Ar.shl32_24 x
  have e2 := fun x => Ar.shl32_16 x
  have e3 := fun x => Ar.shl32_8 x
  have f1 := fun x => Ar.shr32_10 x
  have f2 := fun x => Ar.shr32_3 x
  have e4 := Ar.bits_or32
  have e5 := Ar.byte32_wrap
  have e6 := Ar.bits_xor32
  have e7 := Ar.bits_and32
  have e8 := Ar.bits_not32'
  have e9 := Ar.wrap_add32
  have e10 : IntKind.u32.signed = false := rfl
  conv => arg 2; whnf
  rw [lit218 a h]
  have H1 := Lib.hid g1
  have H5 := Lib.hid g5
  have HW := Lib.hid hW
  simp only [g1, g5, g20]
  clear h g1 g5 g20 hW hi hlen
  refine wp_seq_k (fun K0 k0 => ?_)
  have J0 := Lib.hid k0
  clear k0
  go_wp2
  refine J0.out _ _ ?_
  refine wp_seq_k (fun K9 k9 => ?_)
  have J9 := Lib.hid k9
  clear k9 J0
  go_wp2
  refine J9.out _ _ ?_
  refine wp_seq_k (fun K1 k1 => ?_)
  have J1 := Lib.hid k1
  clear k1 J9
  refine wp_block ?_
  refine wp_seq_k (fun K2 k2 => ?_)
  have J2 := Lib.hid k2
  clear k2
  go_wp2
  refine J2.out _ _ ?_
  refine wp_region_quiet_tail 35 (by kernel_rfl) (by kernel_rfl) ?_
  simp only [List.take_succ_cons, List.take_zero, List.drop_succ_cons, List.drop_zero]
  repeat (go_big_quiet_step (fail))
  refine wpQuiet_nil ?_
  go_wp2
  generalize hW1 : (World.setCell _ _ _).drew = W1
  have R1 : Hid (WIs W1 wb (ws.set i (word x0 x1 x2 x3)) ∧ Tch [wb] w W1) := by
    rw [← hW1]
    exact ⟨HW.out.set i (word x0 x1 x2 x3) 1, (Tch.setCell _ _ _ (by simp)).trans (Tch.drewN _ 1)⟩
  clear hW1 cW fW c0 c1 c2 c3 HW
  refine J1.out _ _ ?_
  go_wp2
  have E1 := H1.out
  have E5 := H5.out
  exact ⟨⟨rfl, rfl⟩, ⟨E1.symm, rfl, rfl, E5.symm, trivial⟩, rfl, R1⟩
def SBX (l : List Nat) (a : Act) (w : World) (a' : Act) (w' : World) : Prop := Frm 218 a' ∧ Same l a a' ∧ w' = w
set_option maxRecDepth 100000 in
theorem sb1Leave (a : Act) (w : World) (h : Frm 218 a) (Q : Exit → Act → World → Prop) (g20 : G a 20 = .int .i64 16)
    (hQ : ∀ a' w', SBX sbKeep a w a' w' → Q (.exit 0) a' w') :
    (part (bodyOf Tryd.f28) [true, true, false, true, false, false]).wp Tryd.prog Q a w := by
  conv => arg 2; whnf
  rw [lit218 a h]
  simp only [g20]
  clear h g20
  go_wp2
  exact ⟨⟨rfl, rfl⟩, ⟨rfl, rfl, rfl, rfl, trivial⟩, rfl⟩
theorem sb1_eq : part (bodyOf Tryd.f28) [true, true, false, true, false] = .loop (part (bodyOf Tryd.f28) [true, true, false, true, false, false]) := by kernel_rfl
/-- Words of the schedule. -/
structure SBI (c : Nat) (a0 : Act) (w0 : World) (wb : Nat) (blk : By) (N i : Nat) (a : Act) (w : World) : Prop where
  frm : Frm 218 a
  same : Same sbKeep a0 a
  le : i ≤ N
  g : G a c = .int .i64 (i : Int)
  ws : ∃ ws, WIs w wb ws ∧ ws.take i = sched blk i
  tch : Tch [wb] w0 w
def SBE (a : Act) (w : World) (wb : Nat) (blk : By) (N : Nat) (a' : Act) (w' : World) : Prop := Frm 218 a' ∧ Same sbKeep a a' ∧ Hid (∃ ws, WIs w' wb ws ∧ ws.take N = sched blk N) ∧ Hid (Tch [wb] w w')
theorem sb1Loop (a : Act) (w : World) (h : Frm 218 a) (Q : Exit → Act → World → Prop) (pb po len cap wb : Nat) (blk : By) (ws : List UInt32)
    (hlen : 64 ≤ len) (hb : blk.length = 64) (hW : WIs w wb ws) (hcell : ∀ i x, blk[i]? = some x → w.cell? ⟨pb, po + i, none⟩ = some (vb x)) (hpb : pb ≠ wb)
    (g1 : G a 1 = .slice (some ⟨pb, po, none⟩) len cap) (g5 : G a 5 = .pointer (some ⟨wb, 0, none⟩)) (g20 : G a 20 = .int .i64 0)
    (hQ : ∀ a' w', SBE a w wb blk 16 a' w' → Q (.exit 0) a' w') :
    (part (bodyOf Tryd.f28) [true, true, false, true, false]).wp Tryd.prog Q a w := by
  rw [sb1_eq]
  refine wp_loop (fun a' w' => ∃ i, SBI 20 a w wb blk 16 i a' w') (fun a' _ => 16 - (intOf (G a' 20)).toNat) ⟨0, h, by simp [Same, sbKeep], by omega, g20, ⟨ws, hW, rfl⟩, Tch.refl _ _⟩ ?_
  rintro a1 w1 ⟨i, I⟩
  obtain ⟨ws1, hw1, ht1⟩ := I.ws
  by_cases hi : i < 16
  · have cl : ∀ j, j < 64 → w1.cell? ⟨pb, po + j, none⟩ = some (.int .u8 (ib (blk.getD j 0))) := by
      intro j hj
      have := I.tch.cell (hcell j (blk.getD j 0) (by rw [List.getD_eq_getElem?_getD, List.getElem?_eq_getElem (by omega)]; rfl)) (by simpa using hpb)
      exact this
    refine sb1Round a1 w1 I.frm _ pb po len cap wb i ws1 _ _ _ _ hi hlen hw1 ((I.same.get 1 rfl).trans g1) ((I.same.get 5 rfl).trans g5) I.g (cl (4 * i) (by omega)) (cl (4 * i + 1) (by omega)) (cl (4 * i + 2) (by omega)) (cl (4 * i + 3) (by omega)) ?_
    rintro a' w' ⟨p1, p2, p3, p4⟩
    simp only [Exit.then]
    have e : word (blk.getD (4 * i) 0) (blk.getD (4 * i + 1) 0) (blk.getD (4 * i + 2) 0) (blk.getD (4 * i + 3) 0) = W blk i := by
      unfold W wNext; rw [sched_length, if_pos hi]
    refine ⟨⟨i + 1, p1, ?_, by omega, by rw [p3]; push_cast; rfl, ⟨_, p4.out.1, ?_⟩, I.tch.trans p4.out.2⟩, ?_⟩
    · have s := I.same
      simp only [Same, sbKeep] at s p2 ⊢
      simp only [p2, s, and_self]
    · rw [e]; exact take_next ws1 blk i (by rw [hw1.1]; omega) ht1
    · rw [p3, I.g]; simp [intOf]; omega
  · have hi' : i = 16 := by have := I.le; omega
    subst hi'
    refine sb1Leave a1 w1 I.frm _ I.g ?_
    rintro a' w' ⟨p1, p2, rfl⟩
    simp only [Exit.then]
    refine hQ _ _ ⟨p1, ?_, ⟨ws1, hw1, ht1⟩, I.tch⟩
    have s := I.same
    simp only [Same, sbKeep] at s p2 ⊢
    simp only [p2, s, and_self]
set_option maxHeartbeats 1000000 in
set_option maxRecDepth 100000 in
theorem sb2Round (a : Act) (w : World) (h : Frm 218 a) (Q : Exit → Act → World → Prop) (wb i : Nat) (ws : List UInt32) (v2 v7 v15 v16 : UInt32)
    (hi0 : 16 ≤ i) (hi : i < 64) (hW : WIs w wb ws)
    (g5 : G a 5 = .pointer (some ⟨wb, 0, none⟩)) (g7 : G a 7 = .int .i64 (i : Int))
    (c0 : w.cell? ⟨wb, i - 2, none⟩ = some (.int .u32 (iw v2))) (c1 : w.cell? ⟨wb, i - 7, none⟩ = some (.int .u32 (iw v7)))
    (c2 : w.cell? ⟨wb, i - 15, none⟩ = some (.int .u32 (iw v15))) (c3 : w.cell? ⟨wb, i - 16, none⟩ = some (.int .u32 (iw v16)))
    (hQ : ∀ a' w', SBP a w 7 wb i ((rotr v2 17 ^^^ rotr v2 19 ^^^ v2 >>> 10) + v7 + (rotr v15 7 ^^^ rotr v15 18 ^^^ v15 >>> 3) + v16) ws a' w' → Q .normal a' w') :
    (part (bodyOf Tryd.f28) [true, true, true, false, true, false, false]).wp Tryd.prog Q a w := by
  have cW := hW.cell i (by omega)
  have fW := hW.2.free i
  have hii : (i : Int) < 64 := by omega
  have hij : (16 : Int) ≤ i := by omega
  have e1 := fun x => Ar.shl32_24 x
  have e2 := fun x => Ar.shl32_16 x
  have e3 := fun x => Ar.shl32_8 x
  have f1 := fun x => Ar.shr32_10 x
  have f2 := fun x => Ar.shr32_3 x
  have e4 := Ar.bits_or32
  have e5 := Ar.byte32_wrap
  have e6 := Ar.bits_xor32
  have e7 := Ar.bits_and32
  have e8 := Ar.bits_not32'
  have e9 := Ar.wrap_add32
  have e10 : IntKind.u32.signed = false := rfl
  conv => arg 2; whnf
  rw [lit218 a h]
  have H5 := Lib.hid g5
  have HW := Lib.hid hW
  simp only [g5, g7]
  clear h g5 g7 hW
  refine wp_seq_k (fun K0 k0 => ?_)
  have J0 := Lib.hid k0
  clear k0
  go_wp2
  refine J0.out _ _ ?_
  refine wp_seq_k (fun K1 k1 => ?_)
  have J1 := Lib.hid k1
  clear k1 J0
  refine wp_block ?_
  refine wp_seq_k (fun K2 k2 => ?_)
  have J2 := Lib.hid k2
  clear k2
  refine wp_region_quiet_lit (by kernel_rfl) (by kernel_rfl) ?_
  repeat (go_big_quiet_step ((first | (with_reducible apply Calls.quiet_of; with_reducible exact turned7 _ _) | (with_reducible apply Calls.quiet_of; with_reducible exact turned18 _ _))))
  refine wpQuiet_nil ?_
  intro _ hw'
  obtain ⟨nq, hw''⟩ := hw'
  subst hw''
  have WQ1 : Hid (WIs (World.drewN w nq) wb ws) := HW.out.drewN' _
  have TQ1 : Hid (Tch [wb] w (World.drewN w nq)) := Tch.drewN _ _
  have cW1 := WQ1.out.cell i (by omega)
  have fW1 := WQ1.out.2.free i
  have q0 : (World.drewN w nq).cell? ⟨wb, i - 2, none⟩ = some (.int .u32 (iw v2)) := c0
  have q1 : (World.drewN w nq).cell? ⟨wb, i - 7, none⟩ = some (.int .u32 (iw v7)) := c1
  have q2 : (World.drewN w nq).cell? ⟨wb, i - 15, none⟩ = some (.int .u32 (iw v15)) := c2
  have q3 : (World.drewN w nq).cell? ⟨wb, i - 16, none⟩ = some (.int .u32 (iw v16)) := c3
  generalize World.drewN w nq = w1 at WQ1 TQ1 cW1 fW1 q0 q1 q2 q3 ⊢
  clear c0 c1 c2 c3 cW fW HW
  have d0 := q0
  have d1 := q1
  have d2 := q2
  have d3 := q3
  clear q0 q1 q2 q3
  refine J2.out _ _ ?_
  refine wp_seq_k (fun K3 k3 => ?_)
  have J3 := Lib.hid k3
  clear k3 J2
  refine wp_region_quiet_lit (by kernel_rfl) (by kernel_rfl) ?_
  repeat (go_big_quiet_step ((first | (with_reducible apply Calls.quiet_of; with_reducible exact turned17 _ _) | (with_reducible apply Calls.quiet_of; with_reducible exact turned19 _ _))))
  refine wpQuiet_nil ?_
  intro _ hw'
  obtain ⟨nq, hw''⟩ := hw'
  subst hw''
  have WQ2 : Hid (WIs (World.drewN w1 nq) wb ws) := WQ1.out.drewN' _
  have TQ2 : Hid (Tch [wb] w (World.drewN w1 nq)) := TQ1.out.trans (Tch.drewN _ _)
  have cW2 := WQ2.out.cell i (by omega)
  have fW2 := WQ2.out.2.free i
  have q0 : (World.drewN w1 nq).cell? ⟨wb, i - 2, none⟩ = some (.int .u32 (iw v2)) := d0
  have q1 : (World.drewN w1 nq).cell? ⟨wb, i - 7, none⟩ = some (.int .u32 (iw v7)) := d1
  have q2 : (World.drewN w1 nq).cell? ⟨wb, i - 15, none⟩ = some (.int .u32 (iw v15)) := d2
  have q3 : (World.drewN w1 nq).cell? ⟨wb, i - 16, none⟩ = some (.int .u32 (iw v16)) := d3
  generalize World.drewN w1 nq = w2 at WQ2 TQ2 cW2 fW2 q0 q1 q2 q3 ⊢
  clear d0 d1 d2 d3 cW1 fW1 WQ1 TQ1
  have c0 := q0
  have c1 := q1
  have c2 := q2
  have c3 := q3
  clear q0 q1 q2 q3
  refine J3.out _ _ ?_
  refine wp_region_quiet_tail 15 (by kernel_rfl) (by kernel_rfl) ?_
  simp only [List.take_succ_cons, List.take_zero, List.drop_succ_cons, List.drop_zero]
  repeat (go_big_quiet_step (fail))
  refine wpQuiet_nil ?_
  go_wp2
  generalize hW1 : (World.setCell _ _ _).drew = W1
  generalize hY : ((rotr v2 17 ^^^ rotr v2 19 ^^^ v2 >>> 10) + v7 + (rotr v15 7 ^^^ rotr v15 18 ^^^ v15 >>> 3) + v16) = Y at hW1 hQ
  have R1 : Hid (WIs W1 wb (ws.set i Y) ∧ Tch [wb] w W1) := by
    rw [← hW1]
    exact ⟨WQ2.out.set i Y 1, TQ2.out.trans ((Tch.setCell _ _ _ (by simp)).trans (Tch.drewN _ 1))⟩
  clear hW1 cW2 fW2 c0 c1 c2 c3 WQ2 TQ2 hY
  refine J1.out _ _ ?_
  go_wp2
  have E5 := H5.out
  exact ⟨⟨rfl, rfl⟩, ⟨rfl, rfl, rfl, E5.symm, trivial⟩, rfl, R1⟩
set_option maxRecDepth 100000 in
theorem sb2Leave (a : Act) (w : World) (h : Frm 218 a) (Q : Exit → Act → World → Prop) (g7 : G a 7 = .int .i64 64)
    (hQ : ∀ a' w', SBX sbKeep a w a' w' → Q (.exit 2) a' w') :
    (part (bodyOf Tryd.f28) [true, true, true, false, true, false, false]).wp Tryd.prog Q a w := by
  conv => arg 2; whnf
  rw [lit218 a h]
  simp only [g7]
  clear h g7
  go_wp2
  exact ⟨⟨rfl, rfl⟩, ⟨rfl, rfl, rfl, rfl, trivial⟩, rfl⟩
theorem sb2_eq : part (bodyOf Tryd.f28) [true, true, true, false, true, false] = .loop (part (bodyOf Tryd.f28) [true, true, true, false, true, false, false]) := by kernel_rfl
theorem sb2Loop (a : Act) (w : World) (h : Frm 218 a) (Q : Exit → Act → World → Prop) (wb : Nat) (blk : By) (ws : List UInt32)
    (hW : WIs w wb ws) (ht : ws.take 16 = sched blk 16) (g5 : G a 5 = .pointer (some ⟨wb, 0, none⟩)) (g7 : G a 7 = .int .i64 16)
    (hQ : ∀ a' w', SBE a w wb blk 64 a' w' → Q (.exit 2) a' w') :
    (part (bodyOf Tryd.f28) [true, true, true, false, true, false]).wp Tryd.prog Q a w := by
  rw [sb2_eq]
  refine wp_loop (fun a' w' => ∃ i, 16 ≤ i ∧ SBI 7 a w wb blk 64 i a' w') (fun a' _ => 64 - (intOf (G a' 7)).toNat) ⟨16, Nat.le_refl _, h, by simp [Same, sbKeep], by omega, g7, ⟨ws, hW, ht⟩, Tch.refl _ _⟩ ?_
  rintro a1 w1 ⟨i, hi0, I⟩
  obtain ⟨ws1, hw1, ht1⟩ := I.ws
  by_cases hi : i < 64
  · have cl : ∀ j, j < i → w1.cell? ⟨wb, j, none⟩ = some (.int .u32 (iw ((sched blk i).getD j 0))) := by
      intro j hj
      rw [hw1.cell j (by omega), ws_get ws1 blk i j ht1 hj]
    refine sb2Round a1 w1 I.frm _ wb i ws1 _ _ _ _ hi0 hi hw1 ((I.same.get 5 rfl).trans g5) I.g (cl (i - 2) (by omega)) (cl (i - 7) (by omega)) (cl (i - 15) (by omega)) (cl (i - 16) (by omega)) ?_
    rintro a' w' ⟨p1, p2, p3, p4⟩
    simp only [Exit.then]
    have e : (rotr ((sched blk i).getD (i - 2) 0) 17 ^^^ rotr ((sched blk i).getD (i - 2) 0) 19 ^^^ (sched blk i).getD (i - 2) 0 >>> 10) + (sched blk i).getD (i - 7) 0 + (rotr ((sched blk i).getD (i - 15) 0) 7 ^^^ rotr ((sched blk i).getD (i - 15) 0) 18 ^^^ (sched blk i).getD (i - 15) 0 >>> 3) + (sched blk i).getD (i - 16) 0 = W blk i := by
      unfold W wNext; rw [sched_length, if_neg (by omega)]
    refine ⟨⟨i + 1, by omega, p1, ?_, by omega, by rw [p3]; push_cast; rfl, ⟨_, p4.out.1, ?_⟩, I.tch.trans p4.out.2⟩, ?_⟩
    · have s := I.same
      simp only [Same, sbKeep] at s p2 ⊢
      simp only [p2, s, and_self]
    · rw [e]; exact take_next ws1 blk i (by rw [hw1.1]; omega) ht1
    · rw [p3, I.g]; simp [intOf]; omega
  · have hi' : i = 64 := by have := I.le; omega
    subst hi'
    refine sb2Leave a1 w1 I.frm _ I.g ?_
    rintro a' w' ⟨p1, p2, rfl⟩
    simp only [Exit.then]
    refine hQ _ _ ⟨p1, ?_, ⟨ws1, hw1, ht1⟩, I.tch⟩
    have s := I.same
    simp only [Same, sbKeep] at s p2 ⊢
    simp only [p2, s, and_self]
end Go.Proofs.YtgomodhhomekpaaDoor
