/-
  One round of the inner loop of blockGeneric.
-/
import Derived.Test.YtgomodhhomekpaaFrame
import Derived.Test.YtgomodhhomekpaaRot
import Derived.Test.YtgomodhhomekpaaQt
namespace Go.Proofs.Ytgomodhhomekpaa
open Go.RowKit Pu Ar
def bgKeep : List Nat := [0, 1, 4, 5, 6, 7, 8, 9, 10, 11, 12]
/-- Behind a round: the word y stored at i, the eight letters turned by the round of k and y, one more in the counter. -/
def PR (a : Act) (w : World) (Wb i : Nat) (s : S8) (k y : UInt32) (a' : Act) (w' : World) : Prop :=
  Frm 283 a' ∧ Same bgKeep a a' ∧ G a' 80 = .int .i64 ((i : Int) + 1) ∧ G a' 13 = .int .u32 (iw (rnd s k y).a) ∧ G a' 14 = .int .u32 (iw (rnd s k y).b) ∧ G a' 15 = .int .u32 (iw (rnd s k y).c) ∧ G a' 16 = .int .u32 (iw (rnd s k y).d)
   ∧ G a' 17 = .int .u32 (iw (rnd s k y).e) ∧ G a' 18 = .int .u32 (iw (rnd s k y).f) ∧ G a' 19 = .int .u32 (iw (rnd s k y).g) ∧ G a' 20 = .int .u32 (iw (rnd s k y).h) ∧ ∃ n, w' = (w.setCell ⟨Wb, i, none⟩ (.int .u32 (iw y))).drewN n
set_option maxHeartbeats 600000 in
set_option maxRecDepth 100000 in
theorem bgRound16 (a : Act) (w : World) (h : Frm 283 a) (Q : Exit → Act → World → Prop) (pb po len cap Wb i : Nat) (s : S8) (k0 : UInt32) (x0 x1 x2 x3 : UInt8)
    (hi : i < 16) (hlen : 64 ≤ len) (hWb : 0 < Wb)
    (g1 : G a 1 = .slice (some ⟨pb, po, none⟩) len cap) (g4 : G a 4 = .pointer (some ⟨Wb, 0, none⟩)) (g80 : G a 80 = .int .i64 i)
    (g13 : G a 13 = .int .u32 (iw s.a)) (g14 : G a 14 = .int .u32 (iw s.b)) (g15 : G a 15 = .int .u32 (iw s.c)) (g16 : G a 16 = .int .u32 (iw s.d))
    (g17 : G a 17 = .int .u32 (iw s.e)) (g18 : G a 18 = .int .u32 (iw s.f)) (g19 : G a 19 = .int .u32 (iw s.g)) (g20 : G a 20 = .int .u32 (iw s.h))
    (c0 : w.cell? ⟨pb, po + i * 4, none⟩ = some (.int .u8 (ib x0))) (c1 : w.cell? ⟨pb, po + (i * 4 + 1), none⟩ = some (.int .u8 (ib x1)))
    (c2 : w.cell? ⟨pb, po + (i * 4 + 2), none⟩ = some (.int .u8 (ib x2))) (c3 : w.cell? ⟨pb, po + (i * 4 + 3), none⟩ = some (.int .u8 (ib x3))) 
    (cW : ∃ y, w.cell? ⟨Wb, i, none⟩ = some y) (fW : w.frozen? ⟨Wb, i, none⟩ = false) (cK : w.cell? ⟨0, i, none⟩ = some (.int .u32 (iw k0)))
    (hQ : ∀ a' w', PR a w Wb i s k0 (word x0 x1 x2 x3) a' w' → Q .normal a' w') :
    (part (bodyOf Try.f112) [true, true, false, false, false, true, false, true, false, true, false, false]).wp Try.prog Q a w := by
  obtain ⟨y, cW⟩ := cW
  have e1 := fun x => Ar.shl32_24 x
  have e2 := fun x => Ar.shl32_16 x
  have e3 := fun x => Ar.shl32_8 x
  have e4 := Ar.bits_or32
  have e5 := Ar.byte32_wrap
  have e6 := Ar.bits_xor32
  have e7 := Ar.bits_and32
  have e8 := Ar.bits_not32'
  have e9 := Ar.wrap_add32
  have e10 : IntKind.u32.signed = false := rfl
  conv => arg 2; whnf
  rw [lit283 a h]
  simp only [g1, g4, g80, g13, g14, g15, g16, g17, g18, g19, g20]
  have H := Lib.hid h
  have H1 := Lib.hid g1
  have H4 := Lib.hid g4
  clear h g1 g4 g80 g13 g14 g15 g16 g17 g18 g19 g20
  go_wp2
  refine wp_region_quiet_tail 31 (by kernel_rfl) (by kernel_rfl) ?_
  simp only [List.take_succ_cons, List.take_zero, List.drop_succ_cons, List.drop_zero]
  repeat (go_big_quiet_step (fail))
  refine wpQuiet_nil ?_
  go_wp2
  generalize hW1 : (World.setCell _ _ _).drew = W1
  have k1 : W1.cell? ⟨0, i, none⟩ = some (.int .u32 (iw k0)) := by rw [← hW1]; exact (World.cell?_of_block (heap_setCell_other w _ _ _ (by simp; omega))).trans cK
  have k2 : W1.cell? ⟨Wb, i, none⟩ = some (.int .u32 (iw (word x0 x1 x2 x3))) := by rw [← hW1]; exact World.cell?_setCell_same w _ _ cW
  generalize hY : word x0 x1 x2 x3 = Y at k2 hQ
  have HW1 := Lib.hid hW1
  have HY := Lib.hid hY
  clear hW1 cK cW fW c0 c1 c2 c3 hY
  refine wp_region_quiet_lit (by kernel_rfl) (by kernel_rfl) ?_
  repeat (go_big_quiet_step ((first | (with_reducible apply Calls.quiet_of_same; with_reducible exact rot6 _ _) | (with_reducible apply Calls.quiet_of_same; with_reducible exact rot11 _ _) | (with_reducible apply Calls.quiet_of_same; with_reducible exact rot25 _ _))))
  refine wpQuiet_nil ?_
  intro _ hw'
  obtain ⟨nq, hw''⟩ := hw'
  subst hw''
  go_wp2_with (go_at_call 113; first | ((with_reducible apply Calls.mono; focus (with_reducible exact rot2' _ _)); rintro e w' ⟨rfl, rfl⟩) | ((with_reducible apply Calls.mono; focus (with_reducible exact rot13' _ _)); rintro e w' ⟨rfl, rfl⟩) | ((with_reducible apply Calls.mono; focus (with_reducible exact rot22' _ _)); rintro e w' ⟨rfl, rfl⟩))
  have E1 := H1.out
  have E4 := H4.out
  have EW := HW1.out
  exact ⟨⟨rfl, rfl⟩, ⟨rfl, E1.symm, E4.symm, rfl, rfl, rfl, rfl, rfl, rfl, rfl, rfl, trivial⟩, rfl, rfl, rfl, rfl, rfl, rfl, rfl, rfl, rfl, 1 + nq, by rw [← EW, ← HY.out, World.drewN_drew]; rfl⟩
set_option maxHeartbeats 600000 in
set_option maxRecDepth 100000 in
theorem bgRoundHi (a : Act) (w : World) (h : Frm 283 a) (Q : Exit → Act → World → Prop) (Wb i : Nat) (s : S8) (k0 : UInt32) (v2 v7 v15 v16 : UInt32)
    (hi0 : 16 ≤ i) (hi : i < 64) (hWb : 0 < Wb)
    (g4 : G a 4 = .pointer (some ⟨Wb, 0, none⟩)) (g80 : G a 80 = .int .i64 i)
    (g13 : G a 13 = .int .u32 (iw s.a)) (g14 : G a 14 = .int .u32 (iw s.b)) (g15 : G a 15 = .int .u32 (iw s.c)) (g16 : G a 16 = .int .u32 (iw s.d))
    (g17 : G a 17 = .int .u32 (iw s.e)) (g18 : G a 18 = .int .u32 (iw s.f)) (g19 : G a 19 = .int .u32 (iw s.g)) (g20 : G a 20 = .int .u32 (iw s.h))
    (c0 : w.cell? ⟨Wb, i - 2, none⟩ = some (.int .u32 (iw v2))) (c1 : w.cell? ⟨Wb, i - 7, none⟩ = some (.int .u32 (iw v7)))
    (c2 : w.cell? ⟨Wb, i - 15, none⟩ = some (.int .u32 (iw v15))) (c3 : w.cell? ⟨Wb, i - 16, none⟩ = some (.int .u32 (iw v16)))
    (cW : ∃ y, w.cell? ⟨Wb, i, none⟩ = some y) (fW : w.frozen? ⟨Wb, i, none⟩ = false) (cK : w.cell? ⟨0, i, none⟩ = some (.int .u32 (iw k0)))
    (hQ : ∀ a' w', PR a w Wb i s k0 ((rotr v2 17 ^^^ rotr v2 19 ^^^ v2 >>> 10) + v7 + (rotr v15 7 ^^^ rotr v15 18 ^^^ v15 >>> 3) + v16) a' w' → Q .normal a' w') :
    (part (bodyOf Try.f112) [true, true, false, false, false, true, false, true, false, true, false, false]).wp Try.prog Q a w := by
  obtain ⟨y, cW⟩ := cW
  have e1 := fun x => Ar.shr32_10 x
  have e2 := fun x => Ar.shr32_3 x
  have e4 := Ar.bits_or32
  have e5 := Ar.byte32_wrap
  have e6 := Ar.bits_xor32
  have e7 := Ar.bits_and32
  have e8 := Ar.bits_not32'
  have e9 := Ar.wrap_add32
  have e10 : IntKind.u32.signed = false := rfl
  conv => arg 2; whnf
  rw [lit283 a h]
  simp only [g4, g80, g13, g14, g15, g16, g17, g18, g19, g20]
  have H := Lib.hid h
  have H4 := Lib.hid g4
  clear h g4 g80 g13 g14 g15 g16 g17 g18 g19 g20
  go_wp2_with (go_at_call 113; first | ((with_reducible apply Calls.mono; focus (with_reducible exact rot17' _ _)); rintro e w' ⟨rfl, rfl⟩) | ((with_reducible apply Calls.mono; focus (with_reducible exact rot19' _ _)); rintro e w' ⟨rfl, rfl⟩) | ((with_reducible apply Calls.mono; focus (with_reducible exact rot7' _ _)); rintro e w' ⟨rfl, rfl⟩) | ((with_reducible apply Calls.mono; focus (with_reducible exact rot18' _ _)); rintro e w' ⟨rfl, rfl⟩))
  refine wp_region_quiet_tail 15 (by kernel_rfl) (by kernel_rfl) ?_
  simp only [List.take_succ_cons, List.take_zero, List.drop_succ_cons, List.drop_zero]
  repeat (go_big_quiet_step (fail))
  refine wpQuiet_nil ?_
  go_wp2
  generalize hW1 : (World.setCell _ _ _).drew = W1
  have k1 : W1.cell? ⟨0, i, none⟩ = some (.int .u32 (iw k0)) := by rw [← hW1]; exact (World.cell?_of_block (heap_setCell_other w _ _ _ (by simp; omega))).trans cK
  have k2 : W1.cell? ⟨Wb, i, none⟩ = some (.int .u32 (iw ((rotr v2 17 ^^^ rotr v2 19 ^^^ v2 >>> 10) + v7 + (rotr v15 7 ^^^ rotr v15 18 ^^^ v15 >>> 3) + v16))) := by rw [← hW1]; exact World.cell?_setCell_same w _ _ cW
  generalize hY : ((rotr v2 17 ^^^ rotr v2 19 ^^^ v2 >>> 10) + v7 + (rotr v15 7 ^^^ rotr v15 18 ^^^ v15 >>> 3) + v16) = Y at k2 hQ
  have HW1 := Lib.hid hW1
  have HY := Lib.hid hY
  clear hW1 cK cW fW c0 c1 c2 c3 hY
  refine wp_region_quiet_lit (by kernel_rfl) (by kernel_rfl) ?_
  repeat (go_big_quiet_step ((first | (with_reducible apply Calls.quiet_of_same; with_reducible exact rot6 _ _) | (with_reducible apply Calls.quiet_of_same; with_reducible exact rot11 _ _) | (with_reducible apply Calls.quiet_of_same; with_reducible exact rot25 _ _))))
  refine wpQuiet_nil ?_
  intro _ hw'
  obtain ⟨nq, hw''⟩ := hw'
  subst hw''
  go_wp2_with (go_at_call 113; first | ((with_reducible apply Calls.mono; focus (with_reducible exact rot2' _ _)); rintro e w' ⟨rfl, rfl⟩) | ((with_reducible apply Calls.mono; focus (with_reducible exact rot13' _ _)); rintro e w' ⟨rfl, rfl⟩) | ((with_reducible apply Calls.mono; focus (with_reducible exact rot22' _ _)); rintro e w' ⟨rfl, rfl⟩))
  have E4 := H4.out
  have EW := HW1.out
  exact ⟨⟨rfl, rfl⟩, ⟨rfl, rfl, E4.symm, rfl, rfl, rfl, rfl, rfl, rfl, rfl, rfl, trivial⟩, rfl, rfl, rfl, rfl, rfl, rfl, rfl, rfl, rfl, 1 + nq, by rw [← EW, ← HY.out, World.drewN_drew]⟩
end Go.Proofs.Ytgomodhhomekpaa
