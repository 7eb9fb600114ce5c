/-
  spec.sha: the padding, the length, the words told.
-/
import Derived.Test.YtgomodhhomekpaaDoorM4
import Derived.Test.YtgomodhhomekpaaDoorZc
namespace Go.Proofs.YtgomodhhomekpaaDoor
open Go.RowKit Pu Ar
set_option maxRecDepth 100000 in
theorem lit76 (a : Act) (h : Frm 76 a) : a = ⟨#[G a 0, G a 1, G a 2, G a 3, G a 4, G a 5, G a 6, G a 7, G a 8, G a 9, G a 10, G a 11, G a 12, G a 13, G a 14, G a 15, G a 16, G a 17, G a 18, G a 19, G a 20, G a 21, G a 22, G a 23, G a 24, G a 25, G a 26, G a 27, G a 28, G a 29, G a 30, G a 31, G a 32, G a 33, G a 34, G a 35, G a 36, G a 37, G a 38, G a 39, G a 40, G a 41, G a 42, G a 43, G a 44, G a 45, G a 46, G a 47, G a 48, G a 49, G a 50, G a 51, G a 52, G a 53, G a 54, G a 55, G a 56, G a 57, G a 58, G a 59, G a 60, G a 61, G a 62, G a 63, G a 64, G a 65, G a 66, G a 67, G a 68, G a 69, G a 70, G a 71, G a 72, G a 73, G a 74, G a 75], []⟩ := lit_of a h
theorem rd_row' {w : World} {b n : Nat} {t : TypeId} {l : By} (h : Row w b t (l.map vb)) (hn : n = l.length) (hm : l.length ≤ maxLen) : Rd w (.slice (some ⟨b, 0, none⟩) n n) l := by
  subst hn
  refine ⟨some ⟨b, 0, none⟩, l.length, rfl, Nat.le_refl _, hm, .inr ⟨b, 0, rfl, fun i x hx => ?_⟩⟩
  rw [h.cell, Nat.zero_add, List.getElem?_map, hx]; rfl
theorem own_ex0 {w : World} {v : Value} {l : By} (h : Own w v l) : ∃ p cap, v = .slice p l.length cap := by
  obtain ⟨p, cap, hv, _⟩ := h.rd; exact ⟨p, cap, hv⟩
def SHX (l : List Nat) (a : Act) (w : World) (a' : Act) (w' : World) : Prop := Frm 76 a' ∧ Same l a a' ∧ w' = w
/-- A slot's row has grown. -/
def SHP (c : Nat) (keep : List Nat) (a : Act) (w : World) (v : Value) (l : By) (a' : Act) (w' : World) : Prop :=
  Frm 76 a' ∧ Same keep a a' ∧ ∃ v', G a' c = v' ∧ Hid (Grew w w' v v' l)
/-! ### noughts -/
def shKeepA : List Nat := [0, 3]
set_option maxHeartbeats 1000000 in
set_option maxRecDepth 100000 in
theorem shARound (a : Act) (w : World) (h : Frm 76 a) (Q : Exit → Act → World → Prop) (xs : By) (v : Value)
    (hv : Own w v xs) (hlen : xs.length ≤ 10000000) (hne : xs.length % 64 ≠ 56) (g4 : G a 4 = v)
    (hQ : ∀ a' w', SHP 4 shKeepA a w v (xs ++ [0]) a' w' → Q .normal a' w') :
    (part (bodyOf Tryd.f19) [true, true, true, true, false, false, false]).wp Tryd.prog Q a w := by
  have hll : (xs.length : Int) ≤ 10000000 := by omega
  have hm : ((xs.length : Int) % 64 == 56) = false := by
    have : ¬ ((xs.length : Int) % 64 = 56) := by omega
    simpa using this
  have hm2 : ¬ ((xs.length : Int) % 64 = 56) := by omega
  have HV := Lib.hid hv
  have HL := Lib.hid hlen
  obtain ⟨p, c, rfl⟩ := own_ex0 hv
  have R1 : Hid (Rd (w.alloc (.cells #[.int .u8 0] 5)) (.slice (some ⟨w.heap.size, 0, none⟩) 1 1) [0]) := rd_new1 w 0
  conv => arg 2; whnf
  rw [lit76 a h]
  simp only [g4]
  clear h g4 hv hlen hne
  refine wp_seq_k (fun K0 k0 => ?_)
  have J0 := Lib.hid k0
  clear k0
  go_wp2
  refine J0.out _ _ ?_
  refine wp_block ?_
  go_wp2_with (refine wpList_append_by rfl _ _ rfl _ _ xs [0] rfl rfl (HV.out.tch (Tch.alloc (S := []) w _) (by intro i _; simp)) R1.out (by have := HL.out; simp; omega) ?_)
  intro v' w' h5
  go_wp2
  obtain ⟨o1, o2, _, o4⟩ := h5.out
  refine ⟨⟨rfl, rfl⟩, ⟨rfl, rfl, trivial⟩, v', rfl, o1, ?_, ?_⟩
  · exact (Tch.alloc _ _).trans o2
  · rcases o4 with h | ⟨g, h, hg⟩
    · exact .inl h
    · exact .inr ⟨g, h, by omega⟩
set_option maxRecDepth 100000 in
theorem shALeave (a : Act) (w : World) (h : Frm 76 a) (Q : Exit → Act → World → Prop) (xs : By) (p : Option Addr) (c : Nat)
    (hlen : xs.length ≤ 10000000) (hne : xs.length % 64 = 56) (g4 : G a 4 = .slice p xs.length c)
    (hQ : ∀ a' w', SHX [0, 3, 4] a w a' w' → Q (.exit 0) a' w') :
    (part (bodyOf Tryd.f19) [true, true, true, true, false, false, false]).wp Tryd.prog Q a w := by
  have hll : (xs.length : Int) ≤ 10000000 := by omega
  have hm : ((xs.length : Int) % 64 == 56) = true := by
    have : ((xs.length : Int) % 64 = 56) := by omega
    simpa using this
  have hm2 : ((xs.length : Int) % 64 = 56) := by omega
  conv => arg 2; whnf
  rw [lit76 a h]
  have E4 := Lib.hid g4
  simp only [g4]
  clear h g4 hlen hne
  go_wp2
  have e4 := E4.out
  exact ⟨⟨rfl, rfl⟩, ⟨rfl, rfl, e4.symm, trivial⟩, rfl⟩
theorem shA_eq : part (bodyOf Tryd.f19) [true, true, true, true, false, false] = .loop (part (bodyOf Tryd.f19) [true, true, true, true, false, false, false]) := by kernel_rfl
structure SHAI (a0 : Act) (w0 : World) (xs : By) (v : Value) (n i : Nat) (a : Act) (w : World) : Prop where
  frm : Frm 76 a
  same : Same shKeepA a0 a
  le : i ≤ n
  st : ∃ v', G a 4 = v' ∧ Hid (Grew w0 w v v' (xs ++ List.replicate i 0))
def sliceLen : Value → Nat
  | .slice _ n _ => n
  | _ => 0
theorem shALoop (a : Act) (w : World) (h : Frm 76 a) (Q : Exit → Act → World → Prop) (xs : By) (v : Value) (n : Nat)
    (hv : Own w v xs) (hlen : xs.length + n ≤ 10000000) (hn : (xs.length + n) % 64 = 56) (hlt : ∀ i, i < n → (xs.length + i) % 64 ≠ 56) (g4 : G a 4 = v)
    (hQ : ∀ a' w', SHP 4 shKeepA a w v (xs ++ List.replicate n 0) a' w' → Q (.exit 0) a' w') :
    (part (bodyOf Tryd.f19) [true, true, true, true, false, false]).wp Tryd.prog Q a w := by
  rw [shA_eq]
  refine wp_loop (fun a' w' => ∃ i, SHAI a w xs v n i a' w') (fun a' _ => xs.length + n - sliceLen (G a' 4)) ⟨0, h, by simp [Same, shKeepA], by omega, v, g4, show Grew _ _ _ _ _ by simpa using Grew.refl hv⟩ ?_
  rintro a1 w1 ⟨i, I⟩
  obtain ⟨v1, e4, k1⟩ := I.st
  have hl : (xs ++ List.replicate i (0 : UInt8)).length = xs.length + i := by simp
  obtain ⟨p, c, hv1⟩ := own_ex0 k1.out.1
  rw [hl] at hv1
  by_cases hi : i < n
  · refine shARound a1 w1 I.frm _ _ v1 k1.out.1 (by rw [hl]; omega) (by rw [hl]; exact hlt i hi) e4 ?_
    rintro a' w' ⟨p1, p2, v', p3, p4⟩
    simp only [Exit.then]
    have e : xs ++ List.replicate i (0 : UInt8) ++ [0] = xs ++ List.replicate (i + 1) 0 := by rw [List.append_assoc, ← List.replicate_succ']
    rw [e] at p4
    obtain ⟨p', c', hv'⟩ := own_ex0 p4.out.1
    refine ⟨⟨i + 1, p1, ?_, by omega, v', p3, k1.out.trans p4.out⟩, ?_⟩
    · have s := I.same
      simp only [Same, shKeepA] at s p2 ⊢
      simp only [p2, s, and_self]
    · rw [p3, e4, hv', hv1]; simp [sliceLen]; omega
  · have hi' : i = n := by have := I.le; omega
    subst hi'
    refine shALeave a1 w1 I.frm _ (xs ++ List.replicate i 0) p c (by rw [hl]; omega) (by rw [hl]; exact hn) (by rw [hl]; exact e4.trans hv1) ?_
    rintro a' w' ⟨p1, p2, rfl⟩
    simp only [Exit.then]
    refine hQ _ _ ⟨p1, ?_, v1, (p2.get 4 rfl).trans e4, k1⟩
    have s := I.same
    simp only [Same, shKeepA] at s p2 ⊢
    simp only [p2, s, and_self]
/-! ### the length -/
def shKeepB : List Nat := [0, 3, 5]
theorem be64_nat (x : UInt64) (i : Nat) (hi : i < 8) : UInt8.ofNat (x.toNat / 2 ^ (56 - 8 * i)) = (be64 x).getD i 0 := by
  have key : ∀ (s : Nat) (u : UInt64), s < 64 → u.toNat = s → UInt8.ofNat (x.toNat / 2 ^ s) = (x >>> u).toUInt8 := by
    intro s u hs hu
    apply UInt8.toNat_inj.1
    rw [UInt8.toNat_ofNat', UInt64.toNat_toUInt8, UInt64.toNat_shiftRight, hu, Nat.mod_eq_of_lt hs, Nat.shiftRight_eq_div_pow]
  match i, hi with
  | 0, _ => rw [key 56 56 (by omega) rfl]; rfl
  | 1, _ => rw [key 48 48 (by omega) rfl]; rfl
  | 2, _ => rw [key 40 40 (by omega) rfl]; rfl
  | 3, _ => rw [key 32 32 (by omega) rfl]; rfl
  | 4, _ => rw [key 24 24 (by omega) rfl]; rfl
  | 5, _ => rw [key 16 16 (by omega) rfl]; rfl
  | 6, _ => rw [key 8 8 (by omega) rfl]; rfl
  | 7, _ =>
    have e : UInt8.ofNat (x.toNat / 2 ^ (56 - 8 * 7)) = x.toUInt8 := by
      apply UInt8.toNat_inj.1
      rw [UInt8.toNat_ofNat', UInt64.toNat_toUInt8]; simp
    rw [e]; rfl
theorem be64_byte (x : UInt64) (i : Nat) (hi : i < 8) : iq x / 2 ^ (56 - 8 * i) % 256 = ib ((be64 x).getD i 0) := by
  rw [← be64_nat x i hi]
  generalize 56 - 8 * i = s
  unfold ib iq
  rw [UInt8.toNat_ofNat', Int.natCast_emod, Int.natCast_ediv, Int.natCast_pow]
  rfl
set_option maxHeartbeats 1000000 in
set_option maxRecDepth 100000 in
theorem shBRound (a : Act) (w : World) (h : Frm 76 a) (Q : Exit → Act → World → Prop) (xs : By) (v : Value) (x : UInt64) (i : Nat)
    (hi : i < 8) (hv : Own w v xs) (hlen : xs.length ≤ 10000000) (g4 : G a 4 = v) (g5 : G a 5 = .int .u64 (iq x)) (g29 : G a 29 = .int .i64 (i : Int))
    (hQ : ∀ a' w', SHP 4 shKeepB a w v (xs ++ [(be64 x).getD i 0]) a' w' → G a' 29 = .int .i64 ((i : Int) + 1) → Q .normal a' w') :
    (part (bodyOf Tryd.f19) [true, true, true, true, true, true, false, true, false, false]).wp Tryd.prog Q a w := by
  have hii : (i : Int) < 8 := by omega
  obtain ⟨y, hy⟩ : ∃ y, y = (be64 x).getD i 0 := ⟨_, rfl⟩
  have e2 : iq x / 2 ^ (56 - 8 * i) % 256 = ib y := by rw [hy]; exact be64_byte x i hi
  rw [← hy] at hQ
  have HV := Lib.hid hv
  have HL := Lib.hid hlen
  obtain ⟨p, c, rfl⟩ := own_ex0 hv
  have R1 : Hid (Rd (w.alloc (.cells #[.int .u8 (iq x / 2 ^ (56 - 8 * i) % 256)] 5)) (.slice (some ⟨w.heap.size, 0, none⟩) 1 1) [y]) := by rw [e2]; exact rd_new1 w y
  conv => arg 2; whnf
  rw [lit76 a h]
  have E5 := Lib.hid g5
  simp only [g4, g5, g29]
  clear h g4 g5 g29 hv hlen hy hi e2
  refine wp_seq_k (fun K0 k0 => ?_)
  have J0 := Lib.hid k0
  clear k0
  go_wp2
  refine J0.out _ _ ?_
  refine wp_seq_k (fun K9 k9 => ?_)
  have J9 := Lib.hid k9
  clear k9 J0
  go_wp2
  refine J9.out _ _ ?_
  refine wp_seq_k (fun K1 k1 => ?_)
  have J1 := Lib.hid k1
  clear k1 J9
  refine wp_block ?_
  refine wp_seq_k (fun K2 k2 => ?_)
  have J2 := Lib.hid k2
  clear k2
  go_wp2
  refine J2.out _ _ ?_
  go_wp2_with (refine wpList_append_by rfl _ _ rfl _ _ xs [y] rfl rfl (HV.out.tch (Tch.alloc (S := []) w _) (by intro i _; simp)) R1.out (by have := HL.out; simp; omega) ?_)
  intro v' w' h5
  go_wp2
  refine J1.out _ _ ?_
  go_wp2
  obtain ⟨o1, o2, _, o4⟩ := h5.out
  have e5 := E5.out
  refine hQ _ _ ⟨⟨rfl, rfl⟩, ⟨rfl, rfl, e5.symm, trivial⟩, v', rfl, o1, ?_, ?_⟩ rfl
  · exact (Tch.alloc _ _).trans o2
  · rcases o4 with h | ⟨g, h, hg⟩
    · exact .inl h
    · exact .inr ⟨g, h, by omega⟩
set_option maxRecDepth 100000 in
theorem shBLeave (a : Act) (w : World) (h : Frm 76 a) (Q : Exit → Act → World → Prop) (g29 : G a 29 = .int .i64 8)
    (hQ : ∀ a' w', SHX [0, 3, 4, 5] a w a' w' → Q (.exit 2) a' w') :
    (part (bodyOf Tryd.f19) [true, true, true, true, true, true, false, true, false, false]).wp Tryd.prog Q a w := by
  conv => arg 2; whnf
  rw [lit76 a h]
  simp only [g29]
  clear h g29
  go_wp2
  exact ⟨⟨rfl, rfl⟩, ⟨rfl, rfl, rfl, rfl, trivial⟩, rfl⟩
theorem shB_eq : part (bodyOf Tryd.f19) [true, true, true, true, true, true, false, true, false] = .loop (part (bodyOf Tryd.f19) [true, true, true, true, true, true, false, true, false, false]) := by kernel_rfl
structure SHBI (a0 : Act) (w0 : World) (xs : By) (v : Value) (x : UInt64) (i : Nat) (a : Act) (w : World) : Prop where
  frm : Frm 76 a
  same : Same shKeepB a0 a
  le : i ≤ 8
  g29 : G a 29 = .int .i64 (i : Int)
  st : ∃ v', G a 4 = v' ∧ Hid (Grew w0 w v v' (xs ++ (be64 x).take i))
theorem shBLoop (a : Act) (w : World) (h : Frm 76 a) (Q : Exit → Act → World → Prop) (xs : By) (v : Value) (x : UInt64)
    (hv : Own w v xs) (hlen : xs.length ≤ 9000000) (g4 : G a 4 = v) (g5 : G a 5 = .int .u64 (iq x)) (g29 : G a 29 = .int .i64 0)
    (hQ : ∀ a' w', SHP 4 shKeepA a w v (xs ++ be64 x) a' w' → Q (.exit 2) a' w') :
    (part (bodyOf Tryd.f19) [true, true, true, true, true, true, false, true, false]).wp Tryd.prog Q a w := by
  rw [shB_eq]
  refine wp_loop (fun a' w' => ∃ i, SHBI a w xs v x i a' w') (fun a' _ => 8 - (intOf (G a' 29)).toNat) ⟨0, h, by simp [Same, shKeepB], by omega, g29, v, g4, show Grew _ _ _ _ _ by simpa using Grew.refl hv⟩ ?_
  rintro a1 w1 ⟨i, I⟩
  obtain ⟨v1, e4, k1⟩ := I.st
  by_cases hi : i < 8
  · refine shBRound a1 w1 I.frm _ _ v1 x i hi k1.out.1 (by simp [be64]; omega) e4 ((I.same.get 5 rfl).trans g5) I.g29 ?_
    rintro a' w' ⟨p1, p2, v', p3, p4⟩ p5
    simp only [Exit.then]
    have e : xs ++ (be64 x).take i ++ [(be64 x).getD i 0] = xs ++ (be64 x).take (i + 1) := by
      rw [List.append_assoc, List.take_succ_eq_append_getElem (show i < (be64 x).length from hi), List.getD_eq_getElem?_getD, List.getElem?_eq_getElem (show i < (be64 x).length from hi)]; rfl
    rw [e] at p4
    refine ⟨⟨i + 1, p1, ?_, by omega, by rw [p5]; push_cast; rfl, v', p3, k1.out.trans p4.out⟩, ?_⟩
    · have s := I.same
      simp only [Same, shKeepB] at s p2 ⊢
      simp only [p2, s, and_self]
    · rw [p5, I.g29]; simp [intOf]; omega
  · have hi' : i = 8 := by have := I.le; omega
    subst hi'
    refine shBLeave a1 w1 I.frm _ I.g29 ?_
    rintro a' w' ⟨p1, p2, rfl⟩
    simp only [Exit.then]
    rw [List.take_of_length_le (show (be64 x).length ≤ 8 from Nat.le_refl _)] at k1
    refine hQ _ _ ⟨p1, ?_, v1, (p2.get 4 rfl).trans e4, k1⟩
    have s := I.same
    simp only [Same, shKeepA, shKeepB] at s p2 ⊢
    simp only [p2, s, and_self]
/-! ### the words told -/
def shKeepD : List Nat := [56]
theorem idx8_0 (s : S8) (w : World) : (Instr.index 47 (.agg (s8c s).toArray) (.int .i64 0)).run Tryd.prog w = .ok (.int .u32 (iw s.a)) w := by kernel_rfl
theorem idx8_1 (s : S8) (w : World) : (Instr.index 47 (.agg (s8c s).toArray) (.int .i64 1)).run Tryd.prog w = .ok (.int .u32 (iw s.b)) w := by kernel_rfl
theorem idx8_2 (s : S8) (w : World) : (Instr.index 47 (.agg (s8c s).toArray) (.int .i64 2)).run Tryd.prog w = .ok (.int .u32 (iw s.c)) w := by kernel_rfl
theorem idx8_3 (s : S8) (w : World) : (Instr.index 47 (.agg (s8c s).toArray) (.int .i64 3)).run Tryd.prog w = .ok (.int .u32 (iw s.d)) w := by kernel_rfl
theorem idx8_4 (s : S8) (w : World) : (Instr.index 47 (.agg (s8c s).toArray) (.int .i64 4)).run Tryd.prog w = .ok (.int .u32 (iw s.e)) w := by kernel_rfl
theorem idx8_5 (s : S8) (w : World) : (Instr.index 47 (.agg (s8c s).toArray) (.int .i64 5)).run Tryd.prog w = .ok (.int .u32 (iw s.f)) w := by kernel_rfl
theorem idx8_6 (s : S8) (w : World) : (Instr.index 47 (.agg (s8c s).toArray) (.int .i64 6)).run Tryd.prog w = .ok (.int .u32 (iw s.g)) w := by kernel_rfl
theorem idx8_7 (s : S8) (w : World) : (Instr.index 47 (.agg (s8c s).toArray) (.int .i64 7)).run Tryd.prog w = .ok (.int .u32 (iw s.h)) w := by kernel_rfl
theorem idx8 (s : S8) (i : Nat) (hi : i < 8) (w : World) : (Instr.index 47 (.agg (s8c s).toArray) (.int .i64 (i : Int))).run Tryd.prog w = .ok (.int .u32 (iw ((s8w s).getD i 0))) w := by
  match i, hi with
  | 0, _ => exact idx8_0 s w
  | 1, _ => exact idx8_1 s w
  | 2, _ => exact idx8_2 s w
  | 3, _ => exact idx8_3 s w
  | 4, _ => exact idx8_4 s w
  | 5, _ => exact idx8_5 s w
  | 6, _ => exact idx8_6 s w
  | 7, _ => exact idx8_7 s w
theorem word_bytes (x : UInt32) : IntKind.u8.wrap (iw (x >>> 24)) = ib (x >>> 24).toUInt8 ∧ IntKind.u8.wrap (iw (x >>> 16)) = ib (x >>> 16).toUInt8 ∧ IntKind.u8.wrap (iw (x >>> 8)) = ib (x >>> 8).toUInt8 ∧ IntKind.u8.wrap (iw x) = ib x.toUInt8 := by
  have key : ∀ y : UInt32, IntKind.u8.wrap (iw y) = ib y.toUInt8 := by
    intro y
    unfold iw
    rw [Ar.wrap_of8]
    congr 1
  exact ⟨key _, key _, key _, key _⟩
set_option maxHeartbeats 1000000 in
set_option maxRecDepth 100000 in
theorem shDRound (a : Act) (w : World) (h : Frm 76 a) (Q : Exit → Act → World → Prop) (xs : By) (v : Value) (s : S8) (x : UInt32) (i : Nat)
    (hi : i < 8) (hx : x = (s8w s).getD i 0) (hv : Own w v xs) (hlen : xs.length ≤ 1000) (g8 : G a 8 = v) (g56 : G a 56 = .agg (s8c s).toArray) (g57 : G a 57 = .int .i64 (i : Int))
    (hQ : ∀ a' w', SHP 8 shKeepD a w v (xs ++ be32 x) a' w' → G a' 57 = .int .i64 ((i : Int) + 1) → Q .normal a' w') :
    (part (bodyOf Tryd.f19) [true, true, true, true, true, true, true, true, true, false, true, false, false]).wp Tryd.prog Q a w := by
  have hii : (i : Int) < 8 := by omega
  obtain ⟨A, hA⟩ : ∃ A, A = (s8c s).toArray := ⟨_, rfl⟩
  have hix : ∀ w, (Instr.index 47 (.agg A) (.int .i64 (i : Int))).run Tryd.prog w = .ok (.int .u32 (iw x)) w := fun w => by rw [hA, hx]; exact idx8 s i hi w
  rw [← hA] at g56
  have e1 := fun yk => Ar.shr32_24 x yk
  have e2 := fun yk => Ar.shr32_16 x yk
  have e3 := fun yk => Ar.shr32_8 x yk
  obtain ⟨f1, f2, f3, f4⟩ := word_bytes x
  have HV := Lib.hid hv
  have HL := Lib.hid hlen
  obtain ⟨p, c, rfl⟩ := own_ex0 hv
  have R1 : Hid (Rd (w.alloc (.cells #[.int .u8 (ib (x >>> 24).toUInt8), .int .u8 (ib (x >>> 16).toUInt8), .int .u8 (ib (x >>> 8).toUInt8), .int .u8 (ib x.toUInt8)] 5)) (.slice (some ⟨w.heap.size, 0, none⟩) 4 4) (be32 x)) := by
    have := rd_row' (l := be32 x) (Row.new w 5 ((be32 x).map vb)) rfl (by show 4 ≤ _; unfold maxLen; omega)
    exact this
  conv => arg 2; whnf
  rw [lit76 a h]
  have E56 := Lib.hid g56
  simp only [g8, g56, g57]
  clear h g8 g56 g57 hv hlen hA hx hi
  refine wp_seq_k (fun K0 k0 => ?_)
  have J0 := Lib.hid k0
  clear k0
  go_wp2
  refine J0.out _ _ ?_
  refine wp_seq_k (fun K9 k9 => ?_)
  have J9 := Lib.hid k9
  clear k9 J0
  go_wp2
  refine J9.out _ _ ?_
  refine wp_seq_k (fun K1 k1 => ?_)
  have J1 := Lib.hid k1
  clear k1 J9
  refine wp_block ?_
  refine wp_seq_k (fun K2 k2 => ?_)
  have J2 := Lib.hid k2
  clear k2
  go_wp2
  refine J2.out _ _ ?_
  go_wp2_with (refine wpList_append_by rfl _ _ rfl _ _ xs (be32 x) rfl rfl (HV.out.tch (Tch.alloc (S := []) w _) (by intro i _; simp)) R1.out (by have := HL.out; simp [be32]; omega) ?_)
  intro v' w' h5
  go_wp2
  refine J1.out _ _ ?_
  go_wp2
  obtain ⟨o1, o2, _, o4⟩ := h5.out
  have e56 := E56.out
  refine hQ _ _ ⟨⟨rfl, rfl⟩, ⟨e56.symm, trivial⟩, v', rfl, o1, ?_, ?_⟩ rfl
  · exact (Tch.alloc _ _).trans o2
  · rcases o4 with h | ⟨g, h, hg⟩
    · exact .inl h
    · exact .inr ⟨g, h, by omega⟩
set_option maxRecDepth 100000 in
theorem shDLeave (a : Act) (w : World) (h : Frm 76 a) (Q : Exit → Act → World → Prop) (g57 : G a 57 = .int .i64 8)
    (hQ : ∀ a' w', SHX [8] a w a' w' → Q (.exit 6) a' w') :
    (part (bodyOf Tryd.f19) [true, true, true, true, true, true, true, true, true, false, true, false, false]).wp Tryd.prog Q a w := by
  conv => arg 2; whnf
  rw [lit76 a h]
  simp only [g57]
  clear h g57
  go_wp2
  exact ⟨⟨rfl, rfl⟩, ⟨rfl, trivial⟩, rfl⟩
theorem shD_eq : part (bodyOf Tryd.f19) [true, true, true, true, true, true, true, true, true, false, true, false] = .loop (part (bodyOf Tryd.f19) [true, true, true, true, true, true, true, true, true, false, true, false, false]) := by kernel_rfl
def tellN (s : S8) (i : Nat) : By := (((s8w s).take i).map be32).flatten
structure SHDI (a0 : Act) (w0 : World) (v : Value) (s : S8) (i : Nat) (a : Act) (w : World) : Prop where
  frm : Frm 76 a
  same : Same shKeepD a0 a
  le : i ≤ 8
  g57 : G a 57 = .int .i64 (i : Int)
  st : ∃ v', G a 8 = v' ∧ Hid (Grew w0 w v v' (tellN s i))
theorem tell_len (s : S8) (i : Nat) (hi : i ≤ 8) : (tellN s i).length ≤ 32 := by
  match i, hi with
  | 0, _ => simp [tellN]
  | 1, _ => simp [tellN, s8w, be32]
  | 2, _ => simp [tellN, s8w, be32]
  | 3, _ => simp [tellN, s8w, be32]
  | 4, _ => simp [tellN, s8w, be32]
  | 5, _ => simp [tellN, s8w, be32]
  | 6, _ => simp [tellN, s8w, be32]
  | 7, _ => simp [tellN, s8w, be32]
  | 8, _ => simp [tellN, s8w, be32]
theorem tell_next (s : S8) (i : Nat) (hi : i < 8) : tellN s i ++ be32 ((s8w s).getD i 0) = tellN s (i + 1) := by
  unfold tellN
  rw [List.take_succ_eq_append_getElem (show i < (s8w s).length from hi), List.map_append, List.flatten_append, List.getD_eq_getElem?_getD, List.getElem?_eq_getElem (show i < (s8w s).length from hi)]
  simp
theorem shDLoop (a : Act) (w : World) (h : Frm 76 a) (Q : Exit → Act → World → Prop) (v : Value) (s : S8)
    (hv : Own w v []) (g8 : G a 8 = v) (g56 : G a 56 = .agg (s8c s).toArray) (g57 : G a 57 = .int .i64 0)
    (hQ : ∀ a' w', SHP 8 [] a w v s.bytes a' w' → Q (.exit 6) a' w') :
    (part (bodyOf Tryd.f19) [true, true, true, true, true, true, true, true, true, false, true, false]).wp Tryd.prog Q a w := by
  rw [shD_eq]
  refine wp_loop (fun a' w' => ∃ i, SHDI a w v s i a' w') (fun a' _ => 8 - (intOf (G a' 57)).toNat) ⟨0, h, by simp [Same, shKeepD], by omega, g57, v, g8, Grew.refl hv⟩ ?_
  rintro a1 w1 ⟨i, I⟩
  obtain ⟨v1, e8, k1⟩ := I.st
  by_cases hi : i < 8
  · refine shDRound a1 w1 I.frm _ _ v1 s _ i hi rfl k1.out.1 (by have := tell_len s i (by omega); omega) e8 ((I.same.get 56 rfl).trans g56) I.g57 ?_
    rintro a' w' ⟨p1, p2, v', p3, p4⟩ p5
    simp only [Exit.then]
    rw [tell_next s i hi] at p4
    refine ⟨⟨i + 1, p1, ?_, by omega, by rw [p5]; push_cast; rfl, v', p3, k1.out.trans p4.out⟩, ?_⟩
    · have s := I.same
      simp only [Same, shKeepD] at s p2 ⊢
      simp only [p2, s, and_self]
    · rw [p5, I.g57]; simp [intOf]; omega
  · have hi' : i = 8 := by have := I.le; omega
    subst hi'
    refine shDLeave a1 w1 I.frm _ I.g57 ?_
    rintro a' w' ⟨p1, p2, rfl⟩
    simp only [Exit.then]
    have e : tellN s 8 = s.bytes := by simp [tellN, s8w, S8.bytes]
    rw [e] at k1
    exact hQ _ _ ⟨p1, trivial, v1, (p2.get 8 rfl).trans e8, k1⟩
end Go.Proofs.YtgomodhhomekpaaDoor
