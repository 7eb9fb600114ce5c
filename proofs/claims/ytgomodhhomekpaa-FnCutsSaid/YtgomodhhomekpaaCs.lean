/-
  checkSum: the padding is written, the eight words are handed out.
-/
import Derived.Test.YtgomodhhomekpaaDy
import Derived.Test.YtgomodhhomekpaaPt
namespace Go.Proofs.Ytgomodhhomekpaa
open Go.RowKit Pu Ar
theorem shl64_3 (n : Nat) (yk : IntKind) : Op.shift .shl .u64 (n : Int) yk 3 = pure (.int .u64 (iq (UInt64.ofNat n <<< 3))) := by
  simp only [Op.shift, iq]; simp [IntKind.bits, UInt64.toNat_shiftLeft, Nat.shiftLeft_eq, IntKind.wrap_u64]
/-- The eight words as bytes, laid one by one. -/
def lay32 (cur : List Value) (o : Nat) (x : UInt32) : List Value := (((cur.set o (vb (x >>> 24).toUInt8)).set (o + 1) (vb (x >>> 16).toUInt8)).set (o + 2) (vb (x >>> 8).toUInt8)).set (o + 3) (vb x.toUInt8)
theorem lay32_length (cur : List Value) (o : Nat) (x : UInt32) : (lay32 cur o x).length = cur.length := by simp [lay32]
theorem lay32_all (s : S8) : lay32 (lay32 (lay32 (lay32 (lay32 (lay32 (lay32 (lay32 (List.replicate 32 (Value.int .u8 0)) 0 s.a) 4 s.b) 8 s.c) 12 s.d) 16 s.e) 20 s.f) 24 s.g) 28 s.h = s.bytes.map vb := by kernel_rfl

def CS (d r : Nat) (S : S8) (w : World) (a' : Act) (w' : World) : Prop := a'.defers = [] ∧ Tch [d, r] w w' ∧ Row w' r 136 (S.bytes.map vb) ∧ G a' 2 = .pointer (some ⟨r, 0, none⟩)
set_option maxHeartbeats 4000000 in
set_option maxRecDepth 100000 in
theorem csWords (a : Act) (w : World) (h : Frm 104 a) (Q : Exit → Act → World → Prop) (b d r : Nat) (S : S8) (x : By) (nx ln : Nat) (hD : Dig w b S x nx ln) (hd : Row w d 136 (List.replicate 32 (Value.int .u8 0)))
    (hr : Row w r 136 (List.replicate 32 (Value.int .u8 0))) (hbd : b ≠ d) (hrd : r ≠ d) (hbr : b ≠ r) (g0 : G a 0 = .pointer (some ⟨b, 0, none⟩)) (g2 : G a 2 = .pointer (some ⟨r, 0, none⟩)) (g7 : G a 7 = .pointer (some ⟨d, 0, none⟩))
    (hQ : ∀ a' w', CS d r S w a' w' → Q .ret a' w') :
    (part (bodyOf Try.f102) [true, true, true, true, true, true, true, true, true, true, true, true]).wp Try.prog Q a w := by
  conv => arg 2; whnf
  rw [lit104 a h]
  simp only [g0, g2, g7]
  clear h g0 g2 g7
  have c74 := hD.is224
  have HD := Lib.hid hD
  have HR := Lib.hid hr
  have HB := Lib.hid hbd
  have HRD := Lib.hid hrd
  have HBR := Lib.hid hbr
  have HW0 := Lib.hid hd
  have HT0 := Lib.hid (Tch.refl [d] w)
  clear hD hr hd hbd hrd hbr
  obtain ⟨W0, hW0⟩ : ∃ W0, W0 = w := ⟨_, rfl⟩

  have c : w.cell? ⟨b, 0, none⟩ = some (.int .u32 (iw S.a)) := by rw [(HD.out.tch HT0.out (by simpa using HB.out)).row.cell]; rfl
  go_wp2
  refine wp_region_quiet_tail 6 (by kernel_rfl) (by kernel_rfl) ?_
  simp only [List.take_succ_cons, List.take_zero, List.drop_succ_cons, List.drop_zero]
  repeat (go_big_quiet_step (fail))
  refine wpQuiet_nil ?_
  go_wp2_with (fail)
  refine (put32 _ d 0 32 32 S.a (List.replicate 32 (Value.int .u8 0)) _ (HW0.out.drewN 1) (by simp) (by omega)).mono ?_
  rintro e w1 ⟨rfl, hr, ht⟩
  have HW1 : Hid (Row w1 d 136 (lay32 (List.replicate 32 (Value.int .u8 0)) 0 S.a)) := hr
  have HT1 : Hid (Tch [d] w w1) := HT0.out.trans ((Tch.drewN _ 1).trans ht)
  clear hr ht c c74
  have c : w1.cell? ⟨b, 1, none⟩ = some (.int .u32 (iw S.b)) := by rw [(HD.out.tch HT1.out (by simpa using HB.out)).row.cell]; rfl
  go_wp2
  refine wp_region_quiet_tail 6 (by kernel_rfl) (by kernel_rfl) ?_
  simp only [List.take_succ_cons, List.take_zero, List.drop_succ_cons, List.drop_zero]
  repeat (go_big_quiet_step (fail))
  refine wpQuiet_nil ?_
  go_wp2_with (fail)
  refine (put32 _ d 4 28 28 S.b (lay32 (List.replicate 32 (Value.int .u8 0)) 0 S.a) _ (HW1.out.drewN 1) (by simp [lay32_length]) (by omega)).mono ?_
  rintro e w2 ⟨rfl, hr, ht⟩
  have HW2 : Hid (Row w2 d 136 (lay32 (lay32 (List.replicate 32 (Value.int .u8 0)) 0 S.a) 4 S.b)) := hr
  have HT2 : Hid (Tch [d] w w2) := HT1.out.trans ((Tch.drewN _ 1).trans ht)
  clear hr ht c
  have c : w2.cell? ⟨b, 2, none⟩ = some (.int .u32 (iw S.c)) := by rw [(HD.out.tch HT2.out (by simpa using HB.out)).row.cell]; rfl
  go_wp2
  refine wp_region_quiet_tail 6 (by kernel_rfl) (by kernel_rfl) ?_
  simp only [List.take_succ_cons, List.take_zero, List.drop_succ_cons, List.drop_zero]
  repeat (go_big_quiet_step (fail))
  refine wpQuiet_nil ?_
  go_wp2_with (fail)
  refine (put32 _ d 8 24 24 S.c (lay32 (lay32 (List.replicate 32 (Value.int .u8 0)) 0 S.a) 4 S.b) _ (HW2.out.drewN 1) (by simp [lay32_length]) (by omega)).mono ?_
  rintro e w3 ⟨rfl, hr, ht⟩
  have HW3 : Hid (Row w3 d 136 (lay32 (lay32 (lay32 (List.replicate 32 (Value.int .u8 0)) 0 S.a) 4 S.b) 8 S.c)) := hr
  have HT3 : Hid (Tch [d] w w3) := HT2.out.trans ((Tch.drewN _ 1).trans ht)
  clear hr ht c
  have c : w3.cell? ⟨b, 3, none⟩ = some (.int .u32 (iw S.d)) := by rw [(HD.out.tch HT3.out (by simpa using HB.out)).row.cell]; rfl
  go_wp2
  refine wp_region_quiet_tail 6 (by kernel_rfl) (by kernel_rfl) ?_
  simp only [List.take_succ_cons, List.take_zero, List.drop_succ_cons, List.drop_zero]
  repeat (go_big_quiet_step (fail))
  refine wpQuiet_nil ?_
  go_wp2_with (fail)
  refine (put32 _ d 12 20 20 S.d (lay32 (lay32 (lay32 (List.replicate 32 (Value.int .u8 0)) 0 S.a) 4 S.b) 8 S.c) _ (HW3.out.drewN 1) (by simp [lay32_length]) (by omega)).mono ?_
  rintro e w4 ⟨rfl, hr, ht⟩
  have HW4 : Hid (Row w4 d 136 (lay32 (lay32 (lay32 (lay32 (List.replicate 32 (Value.int .u8 0)) 0 S.a) 4 S.b) 8 S.c) 12 S.d)) := hr
  have HT4 : Hid (Tch [d] w w4) := HT3.out.trans ((Tch.drewN _ 1).trans ht)
  clear hr ht c
  have c : w4.cell? ⟨b, 4, none⟩ = some (.int .u32 (iw S.e)) := by rw [(HD.out.tch HT4.out (by simpa using HB.out)).row.cell]; rfl
  go_wp2
  refine wp_region_quiet_tail 6 (by kernel_rfl) (by kernel_rfl) ?_
  simp only [List.take_succ_cons, List.take_zero, List.drop_succ_cons, List.drop_zero]
  repeat (go_big_quiet_step (fail))
  refine wpQuiet_nil ?_
  go_wp2_with (fail)
  refine (put32 _ d 16 16 16 S.e (lay32 (lay32 (lay32 (lay32 (List.replicate 32 (Value.int .u8 0)) 0 S.a) 4 S.b) 8 S.c) 12 S.d) _ (HW4.out.drewN 1) (by simp [lay32_length]) (by omega)).mono ?_
  rintro e w5 ⟨rfl, hr, ht⟩
  have HW5 : Hid (Row w5 d 136 (lay32 (lay32 (lay32 (lay32 (lay32 (List.replicate 32 (Value.int .u8 0)) 0 S.a) 4 S.b) 8 S.c) 12 S.d) 16 S.e)) := hr
  have HT5 : Hid (Tch [d] w w5) := HT4.out.trans ((Tch.drewN _ 1).trans ht)
  clear hr ht c
  have c : w5.cell? ⟨b, 5, none⟩ = some (.int .u32 (iw S.f)) := by rw [(HD.out.tch HT5.out (by simpa using HB.out)).row.cell]; rfl
  go_wp2
  refine wp_region_quiet_tail 6 (by kernel_rfl) (by kernel_rfl) ?_
  simp only [List.take_succ_cons, List.take_zero, List.drop_succ_cons, List.drop_zero]
  repeat (go_big_quiet_step (fail))
  refine wpQuiet_nil ?_
  go_wp2_with (fail)
  refine (put32 _ d 20 12 12 S.f (lay32 (lay32 (lay32 (lay32 (lay32 (List.replicate 32 (Value.int .u8 0)) 0 S.a) 4 S.b) 8 S.c) 12 S.d) 16 S.e) _ (HW5.out.drewN 1) (by simp [lay32_length]) (by omega)).mono ?_
  rintro e w6 ⟨rfl, hr, ht⟩
  have HW6 : Hid (Row w6 d 136 (lay32 (lay32 (lay32 (lay32 (lay32 (lay32 (List.replicate 32 (Value.int .u8 0)) 0 S.a) 4 S.b) 8 S.c) 12 S.d) 16 S.e) 20 S.f)) := hr
  have HT6 : Hid (Tch [d] w w6) := HT5.out.trans ((Tch.drewN _ 1).trans ht)
  clear hr ht c
  have c : w6.cell? ⟨b, 6, none⟩ = some (.int .u32 (iw S.g)) := by rw [(HD.out.tch HT6.out (by simpa using HB.out)).row.cell]; rfl
  go_wp2
  refine wp_region_quiet_tail 6 (by kernel_rfl) (by kernel_rfl) ?_
  simp only [List.take_succ_cons, List.take_zero, List.drop_succ_cons, List.drop_zero]
  repeat (go_big_quiet_step (fail))
  refine wpQuiet_nil ?_
  go_wp2_with (fail)
  refine (put32 _ d 24 8 8 S.g (lay32 (lay32 (lay32 (lay32 (lay32 (lay32 (List.replicate 32 (Value.int .u8 0)) 0 S.a) 4 S.b) 8 S.c) 12 S.d) 16 S.e) 20 S.f) _ (HW6.out.drewN 1) (by simp [lay32_length]) (by omega)).mono ?_
  rintro e w7 ⟨rfl, hr, ht⟩
  have HW7 : Hid (Row w7 d 136 (lay32 (lay32 (lay32 (lay32 (lay32 (lay32 (lay32 (List.replicate 32 (Value.int .u8 0)) 0 S.a) 4 S.b) 8 S.c) 12 S.d) 16 S.e) 20 S.f) 24 S.g)) := hr
  have HT7 : Hid (Tch [d] w w7) := HT6.out.trans ((Tch.drewN _ 1).trans ht)
  clear hr ht c
  have c74 : w7.cell? ⟨b, 74, none⟩ = some (.bool false) := (HD.out.tch HT7.out (by simpa using HB.out)).is224
  have hnot : (Op.unary .not (.bool false)) = pure (.bool true) := rfl
  have c : w7.cell? ⟨b, 7, none⟩ = some (.int .u32 (iw S.h)) := by rw [(HD.out.tch HT7.out (by simpa using HB.out)).row.cell]; rfl
  go_wp2
  refine wp_region_quiet_tail 6 (by kernel_rfl) (by kernel_rfl) ?_
  simp only [List.take_succ_cons, List.take_zero, List.drop_succ_cons, List.drop_zero]
  repeat (go_big_quiet_step (fail))
  refine wpQuiet_nil ?_
  go_wp2_with (fail)
  refine (put32 _ d 28 4 4 S.h (lay32 (lay32 (lay32 (lay32 (lay32 (lay32 (lay32 (List.replicate 32 (Value.int .u8 0)) 0 S.a) 4 S.b) 8 S.c) 12 S.d) 16 S.e) 20 S.f) 24 S.g) _ (HW7.out.drewN 1) (by simp [lay32_length]) (by omega)).mono ?_
  rintro e w8 ⟨rfl, hr, ht⟩
  have HW8 : Hid (Row w8 d 136 (lay32 (lay32 (lay32 (lay32 (lay32 (lay32 (lay32 (lay32 (List.replicate 32 (Value.int .u8 0)) 0 S.a) 4 S.b) 8 S.c) 12 S.d) 16 S.e) 20 S.f) 24 S.g) 28 S.h)) := hr
  have HT8 : Hid (Tch [d] w w8) := HT7.out.trans ((Tch.drewN _ 1).trans ht)
  clear hr ht c c74
  have HR8 : Hid (Row w8 r 136 (List.replicate 32 (Value.int .u8 0))) := HR.out.tch HT8.out (by simpa using HRD.out)
  rw [lay32_all] at HW8
  clear hnot
  go_wp2_with (first | (refine wpList_load_row rfl 136 (.tmp 7) rfl d rfl 136 _ (0, 0) _ HW8.out Try.underlying136 rfl (by kernel_rfl) ?_) | (refine wpList_store_row rfl 136 (.tmp 2) (.tmp 103) rfl r ((S.bytes.map vb).toArray) rfl rfl 136 _ HR8.out (by kernel_rfl) (by kernel_rfl) (by kernel_rfl) ?_))
  refine ⟨rfl, (HT8.out.mono (by simp)).trans (Tch.setRow _ _ _ (by simp)), ?_, rfl⟩
  exact setRow_heap w8 r _ _ 136 _ HR8.out
end Go.Proofs.Ytgomodhhomekpaa
