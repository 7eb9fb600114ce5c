/-
  hmac.New's loops: each byte of a key's block is turned.
-/
import Derived.Test.YtgomodhhomekpaaHs
namespace Go.Proofs.Ytgomodhhomekpaa
open Go.RowKit Pu Ar
theorem xor_c36 (x : UInt8) : bits .xor .u8 (ib x) 54 = ib (x ^^^ 0x36) := by rw [show (54 : Int) = ib 0x36 by decide, Ar.bits_xor8]
theorem xor_c5c (x : UInt8) : bits .xor .u8 (ib x) 92 = ib (x ^^^ 0x5c) := by rw [show (92 : Int) = ib 0x5c by decide, Ar.bits_xor8]
theorem take_set_xor (st bs : By) (i : Nat) (c : UInt8) (hi : i < bs.length) (h : st = (bs.take i).map (· ^^^ c) ++ bs.drop i) :
    st.set i (bs.getD i 0 ^^^ c) = (bs.take (i + 1)).map (· ^^^ c) ++ bs.drop (i + 1) := by
  subst h
  rw [List.set_append_right _ _ (by simp; omega)]
  have e : i - ((bs.take i).map (· ^^^ c)).length = 0 := by simp; omega
  rw [e, List.drop_eq_getElem_cons hi, List.set_cons_zero, List.take_succ_eq_append_getElem hi, List.map_append, List.append_assoc, List.getD_eq_getElem?_getD, List.getElem?_eq_getElem hi]
  rfl
def nlDIP (a : Act) (w : World) (ib' i : Nat) (st : By) (a' : Act) (w' : World) : Prop :=
  Frm 121 a' ∧ Same [0, 1, 5, 77] a a' ∧ G a' 78 = .int .i64 ((i : Int) + 1) ∧ Row w' ib' 5 ((st.set i (st.getD i 0 ^^^ 0x36)).map vb) ∧ Tch [ib'] w w'
set_option maxRecDepth 100000 in
theorem nlDIRound (a : Act) (w : World) (h : Frm 121 a) (Q : Exit → Act → World → Prop) (hv m ib' i bl : Nat) (st : By)
    (hi : i < bl) (hst : st.length = bl) (hbl : (bl : Int) ≤ 64) (c0 : w.cell? ⟨hv, 0, none⟩ = some (.pointer (some ⟨m, 0, none⟩))) (c1 : w.cell? ⟨m, 1, none⟩ = some (.slice (some ⟨ib', 0, none⟩) bl bl)) (hr : Row w ib' 5 (st.map vb))
    (g5 : G a 5 = .pointer (some ⟨hv, 0, none⟩)) (gl : G a 77 = .int .i64 bl) (gi : G a 78 = .int .i64 i)
    (hQ : ∀ a' w', nlDIP a w ib' i st a' w' → Q .normal a' w') :
    (part (bodyOf Try.f64) [true, true, true, true, true, true, true, true, true, true, true, true, true, false, true, false, false]).wp Try.prog Q a w := by
  have hii : (i : Int) < bl := by exact_mod_cast hi
  have s1 : w.cell? ⟨ib', i, none⟩ = some (.int .u8 (ib (st.getD i 0))) := by
    rw [hr.cell]; simp [List.getD_eq_getElem?_getD, List.getElem?_eq_getElem (show i < st.length by omega), vb]
  have f1 := hr.free i
  have e4 := xor_c36
  generalize hy : st.getD i 0 = y at s1
  conv => arg 2; whnf
  rw [lit121 a h]
  simp only [g5, gl, gi]
  have G5 := Lib.hid g5
  have GL := Lib.hid gl
  have HR := Lib.hid hr
  have HY := Lib.hid hy
  clear h g5 gl gi hr hst hy
  go_wp2
  have E5 := G5.out
  have EL := GL.out
  refine ⟨⟨rfl, rfl⟩, ⟨rfl, rfl, E5.symm, EL.symm, trivial⟩, rfl, ?_, Tch.setCell _ _ _ (by simp)⟩
  rw [List.map_set, HY.out]; exact HR.out.set _ _
def nlDIX (a : Act) (w : World) (a' : Act) (w' : World) : Prop := Frm 121 a' ∧ Same [0, 1, 5] a a' ∧ w' = w
set_option maxRecDepth 100000 in
theorem nlDILeave (a : Act) (w : World) (h : Frm 121 a) (Q : Exit → Act → World → Prop) (bl : Nat) (gl : G a 77 = .int .i64 bl) (gi : G a 78 = .int .i64 bl)
    (hQ : ∀ a' w', nlDIX a w a' w' → Q (.exit 0) a' w') :
    (part (bodyOf Try.f64) [true, true, true, true, true, true, true, true, true, true, true, true, true, false, true, false, false]).wp Try.prog Q a w := by
  conv => arg 2; whnf
  rw [lit121 a h]
  simp only [gl, gi]
  clear h gl gi
  go_wp2
  exact ⟨⟨rfl, rfl⟩, ⟨rfl, rfl, rfl, trivial⟩, rfl⟩
theorem nlDILoop_eq : part (bodyOf Try.f64) [true, true, true, true, true, true, true, true, true, true, true, true, true, false, true, false] = .loop (part (bodyOf Try.f64) [true, true, true, true, true, true, true, true, true, true, true, true, true, false, true, false, false]) := by kernel_rfl
structure nlDII (a0 : Act) (w0 : World) (ib' bl : Nat) (bs : By) (i : Nat) (a : Act) (w : World) : Prop where
  frm : Frm 121 a
  same : Same [0, 1, 5, 77] a0 a
  le : i ≤ bl
  gi : G a 78 = .int .i64 (i : Int)
  row : Row w ib' 5 (((bs.take i).map (· ^^^ 0x36) ++ bs.drop i).map vb)
  tch : Tch [ib'] w0 w
def nlDIE (a : Act) (w : World) (ib' : Nat) (bs : By) (a' : Act) (w' : World) : Prop :=
  Frm 121 a' ∧ Same [0, 1, 5] a a' ∧ Row w' ib' 5 ((bs.map (· ^^^ 0x36)).map vb) ∧ Tch [ib'] w w'
theorem nlDILoop (a : Act) (w : World) (h : Frm 121 a) (Q : Exit → Act → World → Prop) (hv m ib' bl : Nat) (bs : By) (hst : bs.length = bl) (hbl : bl ≤ 64)
    (c0 : w.cell? ⟨hv, 0, none⟩ = some (.pointer (some ⟨m, 0, none⟩))) (c1 : w.cell? ⟨m, 1, none⟩ = some (.slice (some ⟨ib', 0, none⟩) bl bl)) (hr : Row w ib' 5 (bs.map vb)) (h1 : hv ≠ ib') (h2 : m ≠ ib')
    (g5 : G a 5 = .pointer (some ⟨hv, 0, none⟩)) (gl : G a 77 = .int .i64 bl) (gi : G a 78 = .int .i64 0)
    (hQ : ∀ a' w', nlDIE a w ib' bs a' w' → Q (.exit 0) a' w') :
    (part (bodyOf Try.f64) [true, true, true, true, true, true, true, true, true, true, true, true, true, false, true, false]).wp Try.prog Q a w := by
  rw [nlDILoop_eq]
  refine wp_loop (fun a' w' => ∃ i, nlDII a w ib' bl bs i a' w') (fun a' _ => bl - (intOf (G a' 78)).toNat) ⟨0, h, by simp [Same], by omega, gi, by simpa using hr, Tch.refl _ _⟩ ?_
  rintro a1 w1 ⟨i, I⟩
  by_cases hi : i < bl
  · have ec : ((bs.take i).map (· ^^^ 0x36) ++ bs.drop i).getD i 0 = bs.getD i 0 := by
      rw [List.getD_eq_getElem?_getD, List.getElem?_append_right (by simp; omega), List.getElem?_drop, List.getD_eq_getElem?_getD]
      congr 2
      simp only [List.length_map, List.length_take]; omega
    refine nlDIRound a1 w1 I.frm _ hv m ib' i bl _ hi (by simp; omega) (by omega) (I.tch.cell c0 (by simpa using h1)) (I.tch.cell c1 (by simpa using h2)) I.row ((I.same.get 5 rfl).trans g5) ((I.same.get 77 rfl).trans gl) I.gi ?_
    rintro a' w' ⟨p1, p2, p3, p4, p5⟩
    simp only [Exit.then]
    refine ⟨⟨i + 1, p1, ?_, by omega, p3, ?_, I.tch.trans p5⟩, ?_⟩
    · have s := I.same
      simp only [Same] at s p2 ⊢
      simp only [p2, s, and_self]
    · rw [ec, take_set_xor _ bs i _ (by omega) rfl] at p4; exact p4
    · rw [p3, I.gi]; simp [intOf]; omega
  · have hi' : i = bl := by have := I.le; omega
    subst hi'
    refine nlDILeave a1 w1 I.frm _ i ((I.same.get 77 rfl).trans gl) I.gi ?_
    rintro a' w' ⟨p1, p2, rfl⟩
    simp only [Exit.then]
    have s := I.same
    have r := I.row
    rw [List.take_of_length_le (by omega), List.drop_of_length_le (by omega), List.append_nil] at r
    refine hQ _ _ ⟨p1, ?_, r, I.tch⟩
    simp only [Same] at s p2 ⊢
    simp only [p2, s, and_self]
def nlDOP (a : Act) (w : World) (ib' i : Nat) (st : By) (a' : Act) (w' : World) : Prop :=
  Frm 121 a' ∧ Same [0, 1, 5, 95] a a' ∧ G a' 96 = .int .i64 ((i : Int) + 1) ∧ Row w' ib' 5 ((st.set i (st.getD i 0 ^^^ 0x5c)).map vb) ∧ Tch [ib'] w w'
set_option maxRecDepth 100000 in
theorem nlDORound (a : Act) (w : World) (h : Frm 121 a) (Q : Exit → Act → World → Prop) (hv m ib' i bl : Nat) (st : By)
    (hi : i < bl) (hst : st.length = bl) (hbl : (bl : Int) ≤ 64) (c0 : w.cell? ⟨hv, 0, none⟩ = some (.pointer (some ⟨m, 0, none⟩))) (c1 : w.cell? ⟨m, 0, none⟩ = some (.slice (some ⟨ib', 0, none⟩) bl bl)) (hr : Row w ib' 5 (st.map vb))
    (g5 : G a 5 = .pointer (some ⟨hv, 0, none⟩)) (gl : G a 95 = .int .i64 bl) (gi : G a 96 = .int .i64 i)
    (hQ : ∀ a' w', nlDOP a w ib' i st a' w' → Q .normal a' w') :
    (part (bodyOf Try.f64) [true, true, true, true, true, true, true, true, true, true, true, true, true, true, false, true, false, false]).wp Try.prog Q a w := by
  have hii : (i : Int) < bl := by exact_mod_cast hi
  have s1 : w.cell? ⟨ib', i, none⟩ = some (.int .u8 (ib (st.getD i 0))) := by
    rw [hr.cell]; simp [List.getD_eq_getElem?_getD, List.getElem?_eq_getElem (show i < st.length by omega), vb]
  have f1 := hr.free i
  have e4 := xor_c5c
  generalize hy : st.getD i 0 = y at s1
  conv => arg 2; whnf
  rw [lit121 a h]
  simp only [g5, gl, gi]
  have G5 := Lib.hid g5
  have GL := Lib.hid gl
  have HR := Lib.hid hr
  have HY := Lib.hid hy
  clear h g5 gl gi hr hst hy
  go_wp2
  have E5 := G5.out
  have EL := GL.out
  refine ⟨⟨rfl, rfl⟩, ⟨rfl, rfl, E5.symm, EL.symm, trivial⟩, rfl, ?_, Tch.setCell _ _ _ (by simp)⟩
  rw [List.map_set, HY.out]; exact HR.out.set _ _
def nlDOX (a : Act) (w : World) (a' : Act) (w' : World) : Prop := Frm 121 a' ∧ Same [0, 1, 5] a a' ∧ w' = w
set_option maxRecDepth 100000 in
theorem nlDOLeave (a : Act) (w : World) (h : Frm 121 a) (Q : Exit → Act → World → Prop) (bl : Nat) (gl : G a 95 = .int .i64 bl) (gi : G a 96 = .int .i64 bl)
    (hQ : ∀ a' w', nlDOX a w a' w' → Q (.exit 2) a' w') :
    (part (bodyOf Try.f64) [true, true, true, true, true, true, true, true, true, true, true, true, true, true, false, true, false, false]).wp Try.prog Q a w := by
  conv => arg 2; whnf
  rw [lit121 a h]
  simp only [gl, gi]
  clear h gl gi
  go_wp2
  exact ⟨⟨rfl, rfl⟩, ⟨rfl, rfl, rfl, trivial⟩, rfl⟩
theorem nlDOLoop_eq : part (bodyOf Try.f64) [true, true, true, true, true, true, true, true, true, true, true, true, true, true, false, true, false] = .loop (part (bodyOf Try.f64) [true, true, true, true, true, true, true, true, true, true, true, true, true, true, false, true, false, false]) := by kernel_rfl
structure nlDOI (a0 : Act) (w0 : World) (ib' bl : Nat) (bs : By) (i : Nat) (a : Act) (w : World) : Prop where
  frm : Frm 121 a
  same : Same [0, 1, 5, 95] a0 a
  le : i ≤ bl
  gi : G a 96 = .int .i64 (i : Int)
  row : Row w ib' 5 (((bs.take i).map (· ^^^ 0x5c) ++ bs.drop i).map vb)
  tch : Tch [ib'] w0 w
def nlDOE (a : Act) (w : World) (ib' : Nat) (bs : By) (a' : Act) (w' : World) : Prop :=
  Frm 121 a' ∧ Same [0, 1, 5] a a' ∧ Row w' ib' 5 ((bs.map (· ^^^ 0x5c)).map vb) ∧ Tch [ib'] w w'
theorem nlDOLoop (a : Act) (w : World) (h : Frm 121 a) (Q : Exit → Act → World → Prop) (hv m ib' bl : Nat) (bs : By) (hst : bs.length = bl) (hbl : bl ≤ 64)
    (c0 : w.cell? ⟨hv, 0, none⟩ = some (.pointer (some ⟨m, 0, none⟩))) (c1 : w.cell? ⟨m, 0, none⟩ = some (.slice (some ⟨ib', 0, none⟩) bl bl)) (hr : Row w ib' 5 (bs.map vb)) (h1 : hv ≠ ib') (h2 : m ≠ ib')
    (g5 : G a 5 = .pointer (some ⟨hv, 0, none⟩)) (gl : G a 95 = .int .i64 bl) (gi : G a 96 = .int .i64 0)
    (hQ : ∀ a' w', nlDOE a w ib' bs a' w' → Q (.exit 2) a' w') :
    (part (bodyOf Try.f64) [true, true, true, true, true, true, true, true, true, true, true, true, true, true, false, true, false]).wp Try.prog Q a w := by
  rw [nlDOLoop_eq]
  refine wp_loop (fun a' w' => ∃ i, nlDOI a w ib' bl bs i a' w') (fun a' _ => bl - (intOf (G a' 96)).toNat) ⟨0, h, by simp [Same], by omega, gi, by simpa using hr, Tch.refl _ _⟩ ?_
  rintro a1 w1 ⟨i, I⟩
  by_cases hi : i < bl
  · have ec : ((bs.take i).map (· ^^^ 0x5c) ++ bs.drop i).getD i 0 = bs.getD i 0 := by
      rw [List.getD_eq_getElem?_getD, List.getElem?_append_right (by simp; omega), List.getElem?_drop, List.getD_eq_getElem?_getD]
      congr 2
      simp only [List.length_map, List.length_take]; omega
    refine nlDORound a1 w1 I.frm _ hv m ib' i bl _ hi (by simp; omega) (by omega) (I.tch.cell c0 (by simpa using h1)) (I.tch.cell c1 (by simpa using h2)) I.row ((I.same.get 5 rfl).trans g5) ((I.same.get 95 rfl).trans gl) I.gi ?_
    rintro a' w' ⟨p1, p2, p3, p4, p5⟩
    simp only [Exit.then]
    refine ⟨⟨i + 1, p1, ?_, by omega, p3, ?_, I.tch.trans p5⟩, ?_⟩
    · have s := I.same
      simp only [Same] at s p2 ⊢
      simp only [p2, s, and_self]
    · rw [ec, take_set_xor _ bs i _ (by omega) rfl] at p4; exact p4
    · rw [p3, I.gi]; simp [intOf]; omega
  · have hi' : i = bl := by have := I.le; omega
    subst hi'
    refine nlDOLeave a1 w1 I.frm _ i ((I.same.get 95 rfl).trans gl) I.gi ?_
    rintro a' w' ⟨p1, p2, rfl⟩
    simp only [Exit.then]
    have s := I.same
    have r := I.row
    rw [List.take_of_length_le (by omega), List.drop_of_length_le (by omega), List.append_nil] at r
    refine hQ _ _ ⟨p1, ?_, r, I.tch⟩
    simp only [Same] at s p2 ⊢
    simp only [p2, s, and_self]
def nlOIP (a : Act) (w : World) (ib' i : Nat) (st : By) (a' : Act) (w' : World) : Prop :=
  Frm 121 a' ∧ Same [0, 1, 5, 77] a a' ∧ G a' 78 = .int .i64 ((i : Int) + 1) ∧ Row w' ib' 5 ((st.set i (st.getD i 0 ^^^ 0x36)).map vb) ∧ Tch [ib'] w w'
set_option maxRecDepth 100000 in
theorem nlOIRound (a : Act) (w : World) (h : Frm 121 a) (Q : Exit → Act → World → Prop) (hv m ib' i bl : Nat) (st : By)
    (hi : i < bl) (hst : st.length = bl) (hbl : (bl : Int) ≤ 64) (c0 : w.cell? ⟨hv, 0, none⟩ = some (.pointer (some ⟨m, 0, none⟩))) (c1 : w.cell? ⟨m, 1, none⟩ = some (.slice (some ⟨ib', 0, none⟩) bl bl)) (hr : Row w ib' 5 (st.map vb))
    (g5 : G a 5 = .pointer (some ⟨hv, 0, none⟩)) (gl : G a 77 = .int .i64 bl) (gi : G a 78 = .int .i64 i)
    (hQ : ∀ a' w', nlOIP a w ib' i st a' w' → Q .normal a' w') :
    (part (bodyOf Try.f65) [true, true, true, true, true, true, true, true, true, true, true, true, true, false, true, false, false]).wp Try.prog Q a w := by
  have hii : (i : Int) < bl := by exact_mod_cast hi
  have s1 : w.cell? ⟨ib', i, none⟩ = some (.int .u8 (ib (st.getD i 0))) := by
    rw [hr.cell]; simp [List.getD_eq_getElem?_getD, List.getElem?_eq_getElem (show i < st.length by omega), vb]
  have f1 := hr.free i
  have e4 := xor_c36
  generalize hy : st.getD i 0 = y at s1
  conv => arg 2; whnf
  rw [lit121 a h]
  simp only [g5, gl, gi]
  have G5 := Lib.hid g5
  have GL := Lib.hid gl
  have HR := Lib.hid hr
  have HY := Lib.hid hy
  clear h g5 gl gi hr hst hy
  go_wp2
  have E5 := G5.out
  have EL := GL.out
  refine ⟨⟨rfl, rfl⟩, ⟨rfl, rfl, E5.symm, EL.symm, trivial⟩, rfl, ?_, Tch.setCell _ _ _ (by simp)⟩
  rw [List.map_set, HY.out]; exact HR.out.set _ _
def nlOIX (a : Act) (w : World) (a' : Act) (w' : World) : Prop := Frm 121 a' ∧ Same [0, 1, 5] a a' ∧ w' = w
set_option maxRecDepth 100000 in
theorem nlOILeave (a : Act) (w : World) (h : Frm 121 a) (Q : Exit → Act → World → Prop) (bl : Nat) (gl : G a 77 = .int .i64 bl) (gi : G a 78 = .int .i64 bl)
    (hQ : ∀ a' w', nlOIX a w a' w' → Q (.exit 0) a' w') :
    (part (bodyOf Try.f65) [true, true, true, true, true, true, true, true, true, true, true, true, true, false, true, false, false]).wp Try.prog Q a w := by
  conv => arg 2; whnf
  rw [lit121 a h]
  simp only [gl, gi]
  clear h gl gi
  go_wp2
  exact ⟨⟨rfl, rfl⟩, ⟨rfl, rfl, rfl, trivial⟩, rfl⟩
theorem nlOILoop_eq : part (bodyOf Try.f65) [true, true, true, true, true, true, true, true, true, true, true, true, true, false, true, false] = .loop (part (bodyOf Try.f65) [true, true, true, true, true, true, true, true, true, true, true, true, true, false, true, false, false]) := by kernel_rfl
structure nlOII (a0 : Act) (w0 : World) (ib' bl : Nat) (bs : By) (i : Nat) (a : Act) (w : World) : Prop where
  frm : Frm 121 a
  same : Same [0, 1, 5, 77] a0 a
  le : i ≤ bl
  gi : G a 78 = .int .i64 (i : Int)
  row : Row w ib' 5 (((bs.take i).map (· ^^^ 0x36) ++ bs.drop i).map vb)
  tch : Tch [ib'] w0 w
def nlOIE (a : Act) (w : World) (ib' : Nat) (bs : By) (a' : Act) (w' : World) : Prop :=
  Frm 121 a' ∧ Same [0, 1, 5] a a' ∧ Row w' ib' 5 ((bs.map (· ^^^ 0x36)).map vb) ∧ Tch [ib'] w w'
theorem nlOILoop (a : Act) (w : World) (h : Frm 121 a) (Q : Exit → Act → World → Prop) (hv m ib' bl : Nat) (bs : By) (hst : bs.length = bl) (hbl : bl ≤ 64)
    (c0 : w.cell? ⟨hv, 0, none⟩ = some (.pointer (some ⟨m, 0, none⟩))) (c1 : w.cell? ⟨m, 1, none⟩ = some (.slice (some ⟨ib', 0, none⟩) bl bl)) (hr : Row w ib' 5 (bs.map vb)) (h1 : hv ≠ ib') (h2 : m ≠ ib')
    (g5 : G a 5 = .pointer (some ⟨hv, 0, none⟩)) (gl : G a 77 = .int .i64 bl) (gi : G a 78 = .int .i64 0)
    (hQ : ∀ a' w', nlOIE a w ib' bs a' w' → Q (.exit 0) a' w') :
    (part (bodyOf Try.f65) [true, true, true, true, true, true, true, true, true, true, true, true, true, false, true, false]).wp Try.prog Q a w := by
  rw [nlOILoop_eq]
  refine wp_loop (fun a' w' => ∃ i, nlOII a w ib' bl bs i a' w') (fun a' _ => bl - (intOf (G a' 78)).toNat) ⟨0, h, by simp [Same], by omega, gi, by simpa using hr, Tch.refl _ _⟩ ?_
  rintro a1 w1 ⟨i, I⟩
  by_cases hi : i < bl
  · have ec : ((bs.take i).map (· ^^^ 0x36) ++ bs.drop i).getD i 0 = bs.getD i 0 := by
      rw [List.getD_eq_getElem?_getD, List.getElem?_append_right (by simp; omega), List.getElem?_drop, List.getD_eq_getElem?_getD]
      congr 2
      simp only [List.length_map, List.length_take]; omega
    refine nlOIRound a1 w1 I.frm _ hv m ib' i bl _ hi (by simp; omega) (by omega) (I.tch.cell c0 (by simpa using h1)) (I.tch.cell c1 (by simpa using h2)) I.row ((I.same.get 5 rfl).trans g5) ((I.same.get 77 rfl).trans gl) I.gi ?_
    rintro a' w' ⟨p1, p2, p3, p4, p5⟩
    simp only [Exit.then]
    refine ⟨⟨i + 1, p1, ?_, by omega, p3, ?_, I.tch.trans p5⟩, ?_⟩
    · have s := I.same
      simp only [Same] at s p2 ⊢
      simp only [p2, s, and_self]
    · rw [ec, take_set_xor _ bs i _ (by omega) rfl] at p4; exact p4
    · rw [p3, I.gi]; simp [intOf]; omega
  · have hi' : i = bl := by have := I.le; omega
    subst hi'
    refine nlOILeave a1 w1 I.frm _ i ((I.same.get 77 rfl).trans gl) I.gi ?_
    rintro a' w' ⟨p1, p2, rfl⟩
    simp only [Exit.then]
    have s := I.same
    have r := I.row
    rw [List.take_of_length_le (by omega), List.drop_of_length_le (by omega), List.append_nil] at r
    refine hQ _ _ ⟨p1, ?_, r, I.tch⟩
    simp only [Same] at s p2 ⊢
    simp only [p2, s, and_self]
def nlOOP (a : Act) (w : World) (ib' i : Nat) (st : By) (a' : Act) (w' : World) : Prop :=
  Frm 121 a' ∧ Same [0, 1, 5, 95] a a' ∧ G a' 96 = .int .i64 ((i : Int) + 1) ∧ Row w' ib' 5 ((st.set i (st.getD i 0 ^^^ 0x5c)).map vb) ∧ Tch [ib'] w w'
set_option maxRecDepth 100000 in
theorem nlOORound (a : Act) (w : World) (h : Frm 121 a) (Q : Exit → Act → World → Prop) (hv m ib' i bl : Nat) (st : By)
    (hi : i < bl) (hst : st.length = bl) (hbl : (bl : Int) ≤ 64) (c0 : w.cell? ⟨hv, 0, none⟩ = some (.pointer (some ⟨m, 0, none⟩))) (c1 : w.cell? ⟨m, 0, none⟩ = some (.slice (some ⟨ib', 0, none⟩) bl bl)) (hr : Row w ib' 5 (st.map vb))
    (g5 : G a 5 = .pointer (some ⟨hv, 0, none⟩)) (gl : G a 95 = .int .i64 bl) (gi : G a 96 = .int .i64 i)
    (hQ : ∀ a' w', nlOOP a w ib' i st a' w' → Q .normal a' w') :
    (part (bodyOf Try.f65) [true, true, true, true, true, true, true, true, true, true, true, true, true, true, false, true, false, false]).wp Try.prog Q a w := by
  have hii : (i : Int) < bl := by exact_mod_cast hi
  have s1 : w.cell? ⟨ib', i, none⟩ = some (.int .u8 (ib (st.getD i 0))) := by
    rw [hr.cell]; simp [List.getD_eq_getElem?_getD, List.getElem?_eq_getElem (show i < st.length by omega), vb]
  have f1 := hr.free i
  have e4 := xor_c5c
  generalize hy : st.getD i 0 = y at s1
  conv => arg 2; whnf
  rw [lit121 a h]
  simp only [g5, gl, gi]
  have G5 := Lib.hid g5
  have GL := Lib.hid gl
  have HR := Lib.hid hr
  have HY := Lib.hid hy
  clear h g5 gl gi hr hst hy
  go_wp2
  have E5 := G5.out
  have EL := GL.out
  refine ⟨⟨rfl, rfl⟩, ⟨rfl, rfl, E5.symm, EL.symm, trivial⟩, rfl, ?_, Tch.setCell _ _ _ (by simp)⟩
  rw [List.map_set, HY.out]; exact HR.out.set _ _
def nlOOX (a : Act) (w : World) (a' : Act) (w' : World) : Prop := Frm 121 a' ∧ Same [0, 1, 5] a a' ∧ w' = w
set_option maxRecDepth 100000 in
theorem nlOOLeave (a : Act) (w : World) (h : Frm 121 a) (Q : Exit → Act → World → Prop) (bl : Nat) (gl : G a 95 = .int .i64 bl) (gi : G a 96 = .int .i64 bl)
    (hQ : ∀ a' w', nlOOX a w a' w' → Q (.exit 2) a' w') :
    (part (bodyOf Try.f65) [true, true, true, true, true, true, true, true, true, true, true, true, true, true, false, true, false, false]).wp Try.prog Q a w := by
  conv => arg 2; whnf
  rw [lit121 a h]
  simp only [gl, gi]
  clear h gl gi
  go_wp2
  exact ⟨⟨rfl, rfl⟩, ⟨rfl, rfl, rfl, trivial⟩, rfl⟩
theorem nlOOLoop_eq : part (bodyOf Try.f65) [true, true, true, true, true, true, true, true, true, true, true, true, true, true, false, true, false] = .loop (part (bodyOf Try.f65) [true, true, true, true, true, true, true, true, true, true, true, true, true, true, false, true, false, false]) := by kernel_rfl
structure nlOOI (a0 : Act) (w0 : World) (ib' bl : Nat) (bs : By) (i : Nat) (a : Act) (w : World) : Prop where
  frm : Frm 121 a
  same : Same [0, 1, 5, 95] a0 a
  le : i ≤ bl
  gi : G a 96 = .int .i64 (i : Int)
  row : Row w ib' 5 (((bs.take i).map (· ^^^ 0x5c) ++ bs.drop i).map vb)
  tch : Tch [ib'] w0 w
def nlOOE (a : Act) (w : World) (ib' : Nat) (bs : By) (a' : Act) (w' : World) : Prop :=
  Frm 121 a' ∧ Same [0, 1, 5] a a' ∧ Row w' ib' 5 ((bs.map (· ^^^ 0x5c)).map vb) ∧ Tch [ib'] w w'
theorem nlOOLoop (a : Act) (w : World) (h : Frm 121 a) (Q : Exit → Act → World → Prop) (hv m ib' bl : Nat) (bs : By) (hst : bs.length = bl) (hbl : bl ≤ 64)
    (c0 : w.cell? ⟨hv, 0, none⟩ = some (.pointer (some ⟨m, 0, none⟩))) (c1 : w.cell? ⟨m, 0, none⟩ = some (.slice (some ⟨ib', 0, none⟩) bl bl)) (hr : Row w ib' 5 (bs.map vb)) (h1 : hv ≠ ib') (h2 : m ≠ ib')
    (g5 : G a 5 = .pointer (some ⟨hv, 0, none⟩)) (gl : G a 95 = .int .i64 bl) (gi : G a 96 = .int .i64 0)
    (hQ : ∀ a' w', nlOOE a w ib' bs a' w' → Q (.exit 2) a' w') :
    (part (bodyOf Try.f65) [true, true, true, true, true, true, true, true, true, true, true, true, true, true, false, true, false]).wp Try.prog Q a w := by
  rw [nlOOLoop_eq]
  refine wp_loop (fun a' w' => ∃ i, nlOOI a w ib' bl bs i a' w') (fun a' _ => bl - (intOf (G a' 96)).toNat) ⟨0, h, by simp [Same], by omega, gi, by simpa using hr, Tch.refl _ _⟩ ?_
  rintro a1 w1 ⟨i, I⟩
  by_cases hi : i < bl
  · have ec : ((bs.take i).map (· ^^^ 0x5c) ++ bs.drop i).getD i 0 = bs.getD i 0 := by
      rw [List.getD_eq_getElem?_getD, List.getElem?_append_right (by simp; omega), List.getElem?_drop, List.getD_eq_getElem?_getD]
      congr 2
      simp only [List.length_map, List.length_take]; omega
    refine nlOORound a1 w1 I.frm _ hv m ib' i bl _ hi (by simp; omega) (by omega) (I.tch.cell c0 (by simpa using h1)) (I.tch.cell c1 (by simpa using h2)) I.row ((I.same.get 5 rfl).trans g5) ((I.same.get 95 rfl).trans gl) I.gi ?_
    rintro a' w' ⟨p1, p2, p3, p4, p5⟩
    simp only [Exit.then]
    refine ⟨⟨i + 1, p1, ?_, by omega, p3, ?_, I.tch.trans p5⟩, ?_⟩
    · have s := I.same
      simp only [Same] at s p2 ⊢
      simp only [p2, s, and_self]
    · rw [ec, take_set_xor _ bs i _ (by omega) rfl] at p4; exact p4
    · rw [p3, I.gi]; simp [intOf]; omega
  · have hi' : i = bl := by have := I.le; omega
    subst hi'
    refine nlOOLeave a1 w1 I.frm _ i ((I.same.get 95 rfl).trans gl) I.gi ?_
    rintro a' w' ⟨p1, p2, rfl⟩
    simp only [Exit.then]
    have s := I.same
    have r := I.row
    rw [List.take_of_length_le (by omega), List.drop_of_length_le (by omega), List.append_nil] at r
    refine hQ _ _ ⟨p1, ?_, r, I.tch⟩
    simp only [Same] at s p2 ⊢
    simp only [p2, s, and_self]
end Go.Proofs.Ytgomodhhomekpaa
