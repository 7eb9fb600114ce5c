/-
  The hash that is handed in: Sum.
-/
import Derived.Test.YtgomodhhomekpaaOr
import Derived.Test.YtgomodhhomekpaaDt
namespace Go.Proofs.Ytgomodhhomekpaa
open Go.RowKit Pu Ar
theorem Grew.trans {a b c : World} {v v1 v2 : Value} {l m : By} (h : Grew a b v v1 l) (k : Grew b c v1 v2 m) : Grew a c v v2 m := by
  obtain ⟨_, h2, h3⟩ := h
  obtain ⟨k1, k2, k3⟩ := k
  refine ⟨k1, h2.new k2 ?_, ?_⟩
  · intro i hi
    rcases h3 with h3 | ⟨g, h3, hg⟩
    · left; rwa [h3] at hi
    · right; rw [h3] at hi; simp at hi; omega
  · rcases k3 with k3 | ⟨g, k3, hg⟩
    · rcases h3 with h3 | ⟨g, h3, hg⟩
      · exact .inl (k3.trans h3)
      · exact .inr ⟨g, k3.trans h3, hg⟩
    · exact .inr ⟨g, k3, Nat.le_trans h2.size hg⟩
theorem Grew.refl {w : World} {v : Value} {l : By} (h : Own w v l) : Grew w w v v l := ⟨h, Tch.refl _ _, .inl rfl⟩
theorem Grew.offs {w w' : World} {v v' : Value} {l : By} {S : List Nat} (h : Grew w w' v v' l) (hn : Off S v) (hS : ∀ b ∈ S, b < w.heap.size) : Off S v' := by
  intro b hb
  rcases h.2.2 with h3 | ⟨g, h3, hg⟩
  · exact hn b (by rw [← h3]; exact hb)
  · rw [h3] at hb; simp only [Option.some.injEq] at hb; subst hb
    intro hm; have := hS _ hm; omega
theorem off_list {v : Value} {b : Nat} {S : List Nat} (h : Off S v) (hb : b ∈ S) : b ∉ v.ownBlock.toList := by
  intro hm
  simp only [Option.mem_toList] at hm
  exact h b hm hb
theorem rd_new1 (w : World) (x : UInt8) : Rd (w.alloc (.cells #[.int .u8 (ib x)] 5)) (.slice (some ⟨w.heap.size, 0, none⟩) 1 1) [x] := by
  refine ⟨some ⟨w.heap.size, 0, none⟩, 1, rfl, by simp, by unfold maxLen; omega, .inr ⟨_, 0, rfl, fun i y hy => ?_⟩⟩
  rw [(Row.new w 5 [.int .u8 (ib x)]).cell]
  cases i with
  | zero => simp at hy; subst hy; rfl
  | succ i => simp at hy
def OSP (a : Act) (w : World) (i : Nat) (v : Value) (xs : By) (a' : Act) (w' : World) : Prop :=
  Frm 28 a' ∧ Same [0, 10, 11] a a' ∧ G a' 12 = .int .i64 ((i : Int) + 1) ∧ ∃ v', G a' 1 = v' ∧ Grew w w' v v' xs
set_option maxRecDepth 100000 in
theorem osRound (a : Act) (w : World) (h : Frm 28 a) (Q : Exit → Act → World → Prop) (b sb size block n i : Nat) (st xs : By) (v : Value)
    (hO : OwnAt w b sb size block n st) (hi : i < size) (hv : Own w v xs) (hn : (n : Int) ≤ 9223372036854775807) (hsz : xs.length + 1 ≤ 140737488355328)
    (g0 : G a 0 = .pointer (some ⟨b, 0, none⟩)) (g1 : G a 1 = v) (g10 : G a 10 = .slice (some ⟨sb, 0, none⟩) size size) (g11 : G a 11 = .int .i64 size) (g12 : G a 12 = .int .i64 i)
    (hQ : ∀ a' w', OSP a w i v (xs ++ [st.getD i 0 + UInt8.ofNat n]) a' w' → Q .normal a' w') :
    (part (bodyOf Try.f116) [true, false, true, false, false]).wp Try.prog Q a w := by
  obtain ⟨hbs, hs, hs16, hst, hb, hsb⟩ := hO
  have b2 : w.cell? ⟨b, 2, none⟩ = some (.int .i64 n) := by rw [hb.cell]; rfl
  have hii : (i : Int) < size := by exact_mod_cast hi
  have hsi : (size : Int) ≤ 16 := by exact_mod_cast hs16
  have s1 : w.cell? ⟨sb, i, none⟩ = some (.int .u8 (ib (st.getD i 0))) := by
    rw [hsb.cell]; simp [List.getD_eq_getElem?_getD, List.getElem?_eq_getElem (show i < st.length by omega), vb]
  have e2 := Ar.wrap_add8
  have e3 := Ar.wrap_of8 n
  generalize hy : st.getD i 0 = y at s1 hQ
  conv => arg 2; whnf
  rw [lit28 a h]
  simp only [g0, g1, g10, g11, g12]
  have G0 := Lib.hid g0
  have G10 := Lib.hid g10
  have G11 := Lib.hid g11
  have HB := Lib.hid hb
  have HS := Lib.hid hsb
  have HST := Lib.hid hst
  have HV := Lib.hid hv
  have HSZ := Lib.hid hsz
  clear h g0 g1 g10 g11 g12 hb hsb hst hy hv hsz
  go_wp2_with (refine wpList_append_by rfl _ _ rfl v _ xs [y + UInt8.ofNat n] rfl rfl (HV.out.tch (Tch.alloc (S := []) w _) (by intro i _; simp)) (rd_new1 w _) HSZ.out ?_)
  intro v' w' h5
  go_wp2
  obtain ⟨o1, o2, _, o4⟩ := h5.out
  have E0 := G0.out
  have E10 := G10.out
  have E11 := G11.out
  refine ⟨⟨rfl, rfl⟩, ⟨E0.symm, E10.symm, E11.symm, trivial⟩, rfl, v', rfl, o1, (Tch.alloc (S := v.ownBlock.toList) w _).trans o2, ?_⟩
  rcases o4 with h | ⟨g, h, hg⟩
  · exact .inl h
  · exact .inr ⟨g, h, by have := hg; omega⟩
def OSX (a : Act) (w : World) (a' : Act) (w' : World) : Prop := Frm 28 a' ∧ Same [0, 1] a a' ∧ w' = w
set_option maxRecDepth 100000 in
theorem osLeave (a : Act) (w : World) (h : Frm 28 a) (Q : Exit → Act → World → Prop) (len : Nat) (g11 : G a 11 = .int .i64 len) (g12 : G a 12 = .int .i64 len)
    (hQ : ∀ a' w', OSX a w a' w' → Q (.exit 0) a' w') :
    (part (bodyOf Try.f116) [true, false, true, false, false]).wp Try.prog Q a w := by
  conv => arg 2; whnf
  rw [lit28 a h]
  simp only [g11, g12]
  clear h g11 g12
  go_wp2
  exact ⟨⟨rfl, rfl⟩, ⟨rfl, rfl, trivial⟩, rfl⟩
theorem osLoop_eq : part (bodyOf Try.f116) [true, false, true, false] = .loop (part (bodyOf Try.f116) [true, false, true, false, false]) := by kernel_rfl
structure OSI (a0 : Act) (w0 : World) (b sb size block n : Nat) (st xs : By) (v : Value) (i : Nat) (a : Act) (w : World) : Prop where
  frm : Frm 28 a
  same : Same [0, 10, 11] a0 a
  le : i ≤ size
  g12 : G a 12 = .int .i64 (i : Int)
  own : OwnAt w b sb size block n st
  grew : ∃ v1, G a 1 = v1 ∧ Grew w0 w v v1 (xs ++ (st.take i).map (· + UInt8.ofNat n))
def OSE (w : World) (v : Value) (l : By) (a' : Act) (w' : World) : Prop := Frm 28 a' ∧ Grew w w' v (G a' 1) l
theorem osLoop (a : Act) (w : World) (h : Frm 28 a) (Q : Exit → Act → World → Prop) (b sb size block n : Nat) (st xs : By) (v : Value) (hO : OwnAt w b sb size block n st)
    (hv : Own w v xs) (hoff : Off [b, sb] v) (hn : (n : Int) ≤ 9223372036854775807) (hsz : xs.length + size ≤ 140737488355328)
    (g0 : G a 0 = .pointer (some ⟨b, 0, none⟩)) (g1 : G a 1 = v) (g10 : G a 10 = .slice (some ⟨sb, 0, none⟩) size size) (g11 : G a 11 = .int .i64 size) (g12 : G a 12 = .int .i64 0)
    (hQ : ∀ a' w', OSE w v (xs ++ st.map (· + UInt8.ofNat n)) a' w' → Q (.exit 0) a' w') :
    (part (bodyOf Try.f116) [true, false, true, false]).wp Try.prog Q a w := by
  rw [osLoop_eq]
  have hb1 := hO.row.lt
  have hb2 := hO.state.lt
  refine wp_loop (fun a' w' => ∃ i, OSI a w b sb size block n st xs v i a' w') (fun a' _ => size - (intOf (G a' 12)).toNat) ⟨0, h, by simp [Same], by omega, g12, hO, v, g1, by simpa using Grew.refl hv⟩ ?_
  rintro a1 w1 ⟨i, I⟩
  obtain ⟨v1, e1, k1⟩ := I.grew
  by_cases hi : i < size
  · have off1 : Off [b, sb] v1 := k1.offs hoff (by simp [hb1, hb2])
    have hst := I.own.len
    refine osRound a1 w1 I.frm _ b sb size block n i st _ v1 I.own hi k1.1 hn (by simp only [List.length_append, List.length_map, List.length_take]; omega) ((I.same.get 0 rfl).trans g0) e1 ((I.same.get 10 rfl).trans g10) ((I.same.get 11 rfl).trans g11) I.g12 ?_
    rintro a' w' ⟨p1, p2, p3, v', p4, p5⟩
    simp only [Exit.then]
    refine ⟨⟨i + 1, p1, ?_, by omega, p3, I.own.tch p5.2.1 (off_list off1 (by simp)) (off_list off1 (by simp)), v', p4, ?_⟩, ?_⟩
    · have s := I.same
      simp only [Same] at s p2 ⊢
      simp only [p2, s, and_self]
    · have e : xs ++ (st.take (i + 1)).map (· + UInt8.ofNat n) = xs ++ (st.take i).map (· + UInt8.ofNat n) ++ [st.getD i 0 + UInt8.ofNat n] := by
        rw [List.take_succ_eq_append_getElem (by omega), List.map_append, List.append_assoc, List.getD_eq_getElem?_getD, List.getElem?_eq_getElem (by omega)]; rfl
      rw [e]; exact k1.trans p5
    · rw [p3, I.g12]; simp [intOf]; omega
  · have hi' : i = size := by have := I.le; omega
    subst hi'
    refine osLeave a1 w1 I.frm _ i ((I.same.get 11 rfl).trans g11) I.g12 ?_
    rintro a' w' ⟨p1, p2, rfl⟩
    simp only [Exit.then]
    refine hQ _ _ ⟨p1, ?_⟩
    rw [p2.get 1 rfl, e1]
    rw [List.take_of_length_le (Nat.le_of_eq I.own.len)] at k1; exact k1
set_option maxRecDepth 100000 in
/-- Sum of the hash that is handed in. -/
theorem ownSum (b sb size block n : Nat) (st xs : By) (v : Value) (w : World) (hO : OwnAt w b sb size block n st) (hv : Own w v xs) (hoff : Off [b, sb] v) (hn : n ≤ maxLen) (hsz : xs.length + 32 ≤ 140737488355328) :
    Calls Try.prog 116 #[.pointer (some ⟨b, 0, none⟩), v] w fun e w' => ∃ v', e = .returned v' ∧ Hid (Grew w w' v v' (xs ++ st.map (· + UInt8.ofNat n))) := by
  have b3 : w.cell? ⟨b, 3, none⟩ = some (.slice (some ⟨sb, 0, none⟩) size size) := by rw [hO.row.cell]; rfl
  have H16 := Lib.hid hO.most
  have HO := Lib.hid hO
  have HV := Lib.hid hv
  have HF := Lib.hid hoff
  have HN := Lib.hid hn
  have HS := Lib.hid hsz
  clear hO hv hoff hn hsz
  go_enter Try.func116, Try.ntmps116
  go_wp2
  refine osLoop _ _ ⟨rfl, rfl⟩ _ b sb size block n st xs v HO.out HV.out HF.out (by have := HN.out; unfold maxLen at this; omega) (by have := HS.out; have := H16.out; omega) rfl rfl rfl rfl rfl ?_
  rintro a' w' ⟨f, k⟩
  rw [lit28 a' f]
  have H := Lib.hid k
  clear k f
  go_wp2
  go_ret
  exact ⟨_, rfl, H.out⟩
end Go.Proofs.Ytgomodhhomekpaa
