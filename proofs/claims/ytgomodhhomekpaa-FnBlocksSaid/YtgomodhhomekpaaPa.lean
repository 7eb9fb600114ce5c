/-
  pbkdf2.Key: the innermost loop.
-/
import Derived.Test.YtgomodhhomekpaaM6
import Derived.Test.YtgomodhhomekpaaXq
namespace Go.Proofs.Ytgomodhhomekpaa
open Go.RowKit Pu Ar
set_option maxRecDepth 100000 in
theorem lit126 (a : Act) (h : Frm 126 a) : a = ⟨#[G a 0, G a 1, G a 2, G a 3, G a 4, G a 5, G a 6, G a 7, G a 8, G a 9, G a 10, G a 11, G a 12, G a 13, G a 14, G a 15, G a 16, G a 17, G a 18, G a 19, G a 20, G a 21, G a 22, G a 23, G a 24, G a 25, G a 26, G a 27, G a 28, G a 29, G a 30, G a 31, G a 32, G a 33, G a 34, G a 35, G a 36, G a 37, G a 38, G a 39, G a 40, G a 41, G a 42, G a 43, G a 44, G a 45, G a 46, G a 47, G a 48, G a 49, G a 50, G a 51, G a 52, G a 53, G a 54, G a 55, G a 56, G a 57, G a 58, G a 59, G a 60, G a 61, G a 62, G a 63, G a 64, G a 65, G a 66, G a 67, G a 68, G a 69, G a 70, G a 71, G a 72, G a 73, G a 74, G a 75, G a 76, G a 77, G a 78, G a 79, G a 80, G a 81, G a 82, G a 83, G a 84, G a 85, G a 86, G a 87, G a 88, G a 89, G a 90, G a 91, G a 92, G a 93, G a 94, G a 95, G a 96, G a 97, G a 98, G a 99, G a 100, G a 101, G a 102, G a 103, G a 104, G a 105, G a 106, G a 107, G a 108, G a 109, G a 110, G a 111, G a 112, G a 113, G a 114, G a 115, G a 116, G a 117, G a 118, G a 119, G a 120, G a 121, G a 122, G a 123, G a 124, G a 125], []⟩ := lit_of a h
theorem OwnC.get {w : World} {g cap : Nat} {l : By} (h : OwnC w g cap l) (i : Nat) (hi : i < l.length) : w.cell? ⟨g, i, none⟩ = some (vb (l.getD i 0)) := by
  obtain ⟨h1, h2, cur, hr, h3, h4⟩ := h
  rw [hr.cell]
  have e : cur[i]? = (cur.take l.length)[i]? := by rw [List.getElem?_take, if_pos hi]
  rw [e, h4, List.getElem?_map, List.getD_eq_getElem?_getD, List.getElem?_eq_getElem hi]; rfl
theorem OwnC.free {w : World} {g cap : Nat} {l : By} (h : OwnC w g cap l) (i : Nat) : w.frozen? ⟨g, i, none⟩ = false := by
  obtain ⟨_, _, cur, hr, _⟩ := h; exact hr.free i
theorem OwnC.drewN {w : World} {g cap : Nat} {l : By} (h : OwnC w g cap l) (n : Nat) : OwnC (w.drewN n) g cap l := h.tch (S := []) (Tch.drewN w n) (by simp)
theorem OwnC.set {w : World} {g cap : Nat} {l : By} (h : OwnC w g cap l) (i : Nat) (y : UInt8) : OwnC (w.setCell ⟨g, i, none⟩ (vb y)) g cap (l.set i y) := by
  obtain ⟨h1, h2, cur, hr, h3, h4⟩ := h
  refine ⟨by simpa using h1, h2, _, hr.set i (vb y), by simpa using h3, ?_⟩
  rw [List.length_set, List.take_set, h4, List.map_set]
/-- What holds bytes is a row. -/
theorem Own.c {w : World} {v : Value} {l : By} (h : Own w v l) (h0 : l ≠ []) : ∃ g cap, v = .slice (some ⟨g, 0, none⟩) l.length cap ∧ OwnC w g cap l := by
  rcases h.2 with ⟨_, h1⟩ | ⟨g, cap, cur, hv, hb, hg, hc, hm, hs, ht⟩
  · exact absurd (List.eq_nil_of_length_eq_zero h1) h0
  · refine ⟨g, cap, hv, hc, hm, cur.toList, ?_, by simpa using hs, by simpa using ht⟩
    unfold Row; simpa using hg
theorem xor_set (T U st : By) (i : Nat) (hi : i < T.length) (hU : U.length = T.length) (h : st = xorBy (T.take i) (U.take i) ++ T.drop i) :
    st.set i (st.getD i 0 ^^^ U.getD i 0) = xorBy (T.take (i + 1)) (U.take (i + 1)) ++ T.drop (i + 1) := by
  subst h
  have hl : (xorBy (T.take i) (U.take i)).length = i := by simp [xorBy]; omega
  rw [List.set_append_right _ _ (by omega)]
  have e : i - (xorBy (T.take i) (U.take i)).length = 0 := by omega
  have hi2 : i < U.length := by omega
  rw [e, List.drop_eq_getElem_cons hi, List.set_cons_zero, List.take_succ_eq_append_getElem hi, List.take_succ_eq_append_getElem hi2, List.getD_eq_getElem?_getD, List.getD_eq_getElem?_getD]
  rw [List.getElem?_append_right (by omega), e, List.getElem?_eq_getElem hi2]
  unfold xorBy
  rw [List.zipWith_append (by simp; omega)]
  simp [hi]
theorem xor_all (T U : By) (hU : U.length = T.length) : xorBy (T.take T.length) (U.take T.length) ++ T.drop T.length = xorBy T U := by
  rw [List.take_length, ← hU, List.take_length, hU, List.drop_length, List.append_nil]
def pkKeep : List Nat := [2, 3, 4, 12, 13, 14, 15, 16, 17, 18, 19, 20]
def PXP (a : Act) (w : World) (g cap i : Nat) (l : By) (a' : Act) (w' : World) : Prop :=
  Frm 126 a' ∧ Same (108 :: pkKeep) a a' ∧ G a' 109 = .int .i64 ((i : Int) + 1) ∧ Hid (OwnC w' g cap l ∧ Tch [g] w w')
set_option maxHeartbeats 1000000 in
set_option maxRecDepth 100000 in
theorem pxRound (a : Act) (w : World) (h : Frm 126 a) (Q : Exit → Act → World → Prop) (g cap Z i off tc ub uo uc : Nat) (A st : By) (x : UInt8)
    (hO : OwnC w g cap (A ++ st)) (hst : st.length = Z) (hi : i < Z) (hZ : (Z : Int) ≤ 32) (hoff : off = A.length) (hx : w.cell? ⟨ub, uo + i, none⟩ = some (vb x))
    (g17 : G a 17 = .slice (some ⟨ub, uo, none⟩) Z uc) (g19 : G a 19 = .slice (some ⟨g, off, none⟩) Z tc) (g108 : G a 108 = .int .i64 Z) (g109 : G a 109 = .int .i64 i)
    (hQ : ∀ a' w', PXP a w g cap i (A ++ st.set i (st.getD i 0 ^^^ x)) a' w' → Q .normal a' w') :
    (part (bodyOf Try.f58) [true, true, true, true, true, true, true, true, true, true, false, true, false, false, true, false, false, true, true, true, true, true, true, true, true, true, true, true, false, false, true, false, false, true, true, true, true, true, false, false]).wp Try.prog Q a w := by
  have hii : (i : Int) < Z := by exact_mod_cast hi
  have hlt : off + i < (A ++ st).length := by rw [List.length_append]; omega
  have hgd : (A ++ st).getD (off + i) 0 = st.getD i 0 := by
    rw [List.getD_eq_getElem?_getD, List.getD_eq_getElem?_getD, List.getElem?_append_right (by omega), hoff, Nat.add_sub_cancel_left]
  have s1 : w.cell? ⟨g, off + i, none⟩ = some (.int .u8 (ib (st.getD i 0))) := by rw [hO.get _ hlt, hgd]; rfl
  have s2 : w.cell? ⟨ub, uo + i, none⟩ = some (.int .u8 (ib x)) := hx
  have f1 := hO.free (off + i)
  have e4 := Ar.bits_xor8
  have hset : (A ++ st).set (off + i) (st.getD i 0 ^^^ x) = A ++ st.set i (st.getD i 0 ^^^ x) := by
    rw [List.set_append_right _ _ (by omega), hoff, Nat.add_sub_cancel_left]
  have HSET := Lib.hid hset
  generalize hy : st.getD i 0 = y at s1 HSET hQ
  conv => arg 2; whnf
  rw [lit126 a h]
  simp only [g17, g19, g108, g109]
  have G17 := Lib.hid g17
  have G19 := Lib.hid g19
  have G108 := Lib.hid g108
  have HO := Lib.hid hO
  clear h g17 g19 g108 g109 hO hst hx hlt hset hgd hy hi hoff
  go_wp2
  refine wp_region_quiet_tail 10 (by kernel_rfl) (by kernel_rfl) ?_
  simp only [List.take_succ_cons, List.take_zero, List.drop_succ_cons, List.drop_zero]
  repeat (go_big_quiet_step (fail))
  refine wpQuiet_nil ?_
  go_wp2
  have E17 := G17.out
  have E19 := G19.out
  have E108 := G108.out
  refine ⟨⟨rfl, rfl⟩, ⟨E108.symm, rfl, rfl, rfl, rfl, rfl, rfl, rfl, rfl, E17.symm, rfl, E19.symm, rfl, trivial⟩, rfl, ?_, (Tch.drewN w _).trans (Tch.setCell _ _ _ (by simp))⟩
  rw [← HSET.out]
  exact (HO.out.drewN _).set _ _
def PXX (a : Act) (w : World) (a' : Act) (w' : World) : Prop := Frm 126 a' ∧ Same pkKeep a a' ∧ w' = w
set_option maxRecDepth 100000 in
theorem pxLeave (a : Act) (w : World) (h : Frm 126 a) (Q : Exit → Act → World → Prop) (Z : Nat) (g108 : G a 108 = .int .i64 Z) (g109 : G a 109 = .int .i64 Z)
    (hQ : ∀ a' w', PXX a w a' w' → Q (.exit 4) a' w') :
    (part (bodyOf Try.f58) [true, true, true, true, true, true, true, true, true, true, false, true, false, false, true, false, false, true, true, true, true, true, true, true, true, true, true, true, false, false, true, false, false, true, true, true, true, true, false, false]).wp Try.prog Q a w := by
  conv => arg 2; whnf
  rw [lit126 a h]
  simp only [g108, g109]
  clear h g108 g109
  go_wp2
  exact ⟨⟨rfl, rfl⟩, ⟨rfl, rfl, rfl, rfl, rfl, rfl, rfl, rfl, rfl, rfl, rfl, rfl, trivial⟩, rfl⟩
theorem pxLoop_eq : part (bodyOf Try.f58) [true, true, true, true, true, true, true, true, true, true, false, true, false, false, true, false, false, true, true, true, true, true, true, true, true, true, true, true, false, false, true, false, false, true, true, true, true, true, false] = .loop (part (bodyOf Try.f58) [true, true, true, true, true, true, true, true, true, true, false, true, false, false, true, false, false, true, true, true, true, true, true, true, true, true, true, true, false, false, true, false, false, true, true, true, true, true, false, false]) := by kernel_rfl
structure PXI (a0 : Act) (w0 : World) (g cap : Nat) (A T U : By) (i : Nat) (a : Act) (w : World) : Prop where
  frm : Frm 126 a
  same : Same (108 :: pkKeep) a0 a
  le : i ≤ T.length
  g109 : G a 109 = .int .i64 (i : Int)
  row : OwnC w g cap (A ++ (xorBy (T.take i) (U.take i) ++ T.drop i))
  tch : Tch [g] w0 w
def PXE (a : Act) (w : World) (g cap : Nat) (l : By) (a' : Act) (w' : World) : Prop := Frm 126 a' ∧ Same pkKeep a a' ∧ Hid (OwnC w' g cap l ∧ Tch [g] w w')
theorem pxLoop (a : Act) (w : World) (h : Frm 126 a) (Q : Exit → Act → World → Prop) (g cap Z off tc : Nat) (A T U : By) (u : Value)
    (hO : OwnC w g cap (A ++ T)) (hT : T.length = Z) (hUl : U.length = Z) (hZ : (Z : Int) ≤ 32) (hoff : off = A.length) (hu : Rd w u U) (huo : Off [g] u)
    (g17 : G a 17 = u) (g19 : G a 19 = .slice (some ⟨g, off, none⟩) Z tc) (g108 : G a 108 = .int .i64 Z) (g109 : G a 109 = .int .i64 0)
    (hQ : ∀ a' w', PXE a w g cap (A ++ xorBy T U) a' w' → Q (.exit 4) a' w') :
    (part (bodyOf Try.f58) [true, true, true, true, true, true, true, true, true, true, false, true, false, false, true, false, false, true, true, true, true, true, true, true, true, true, true, true, false, false, true, false, false, true, true, true, true, true, false]).wp Try.prog Q a w := by
  rw [pxLoop_eq]
  obtain ⟨q, uc, hv, hcap, hmax, hrd⟩ := hu
  refine wp_loop (fun a' w' => ∃ i, PXI a w g cap A T U i a' w') (fun a' _ => T.length - (intOf (G a' 109)).toNat) ⟨0, h, by simp [Same, pkKeep], by omega, g109, by simpa [xorBy] using hO, Tch.refl _ _⟩ ?_
  rintro a1 w1 ⟨i, I⟩
  have hl : (xorBy (T.take i) (U.take i) ++ T.drop i).length = Z := by have := I.le; simp [xorBy]; omega
  by_cases hi : i < T.length
  · obtain ⟨ub, uo, rfl, hcell⟩ : ∃ b o, q = some ⟨b, o, none⟩ ∧ ∀ i x, U[i]? = some x → w.cell? ⟨b, o + i, none⟩ = some (vb x) := by
      rcases hrd with h | h
      · rw [h] at hUl; simp at hUl; omega
      · exact h
    have hx := I.tch.cell (hcell i (U.getD i 0) (by rw [List.getD_eq_getElem?_getD, List.getElem?_eq_getElem (by omega)]; rfl)) (huo ub (by rw [hv]; rfl))
    refine pxRound a1 w1 I.frm _ g cap Z i off tc ub uo uc A _ _ I.row hl (by omega) hZ hoff hx ((I.same.get 17 rfl).trans (g17.trans (by rw [hv, hUl]))) ((I.same.get 19 rfl).trans g19) ((I.same.get 108 rfl).trans g108) I.g109 ?_
    rintro a' w' ⟨p1, p2, p3, p4⟩
    simp only [Exit.then]
    refine ⟨⟨i + 1, p1, ?_, by omega, p3, ?_, I.tch.trans p4.out.2⟩, ?_⟩
    · have s := I.same
      simp only [Same, pkKeep] at s p2 ⊢
      simp only [p2, s, and_self]
    · have := p4.out.1
      rw [xor_set T U _ i hi (by omega) rfl] at this
      exact this
    · rw [p3, I.g109]; simp [intOf]; omega
  · have hi' : i = T.length := by have := I.le; omega
    subst hi'
    refine pxLeave a1 w1 I.frm _ Z ((I.same.get 108 rfl).trans g108) (by rw [I.g109, hT]) ?_
    rintro a' w' ⟨p1, p2, rfl⟩
    simp only [Exit.then]
    have hr := I.row
    rw [xor_all T U (by omega)] at hr
    refine hQ _ _ ⟨p1, ?_, hr, I.tch⟩
    have s := I.same
    simp only [Same, pkKeep] at s p2 ⊢
    simp only [p2, s, and_self]
end Go.Proofs.Ytgomodhhomekpaa
