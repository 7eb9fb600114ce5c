/-
  The hash that is handed in: Write.
-/
import Derived.Test.YtgomodhhomekpaaFrame
import Derived.Test.YtgomodhhomekpaaQt
namespace Go.Proofs.Ytgomodhhomekpaa
open Go.RowKit Pu Ar
/-- Block b is a hash of the thin package: its sizes, how many bytes it has taken in, its state in block sb. -/
structure OwnAt (w : World) (b sb size block n : Nat) (st : By) : Prop where
  ne : b ≠ sb
  one : 1 ≤ size
  most : size ≤ 16
  len : st.length = size
  row : Row w b 106 [.int .i64 size, .int .i64 block, .int .i64 n, .slice (some ⟨sb, 0, none⟩) size size]
  state : Row w sb 5 (st.map vb)
theorem OwnAt.tch {S : List Nat} {w w' : World} {b sb size block n : Nat} {st : By} (h : OwnAt w b sb size block n st) (k : Tch S w w') (hb : b ∉ S) (hs : sb ∉ S) : OwnAt w' b sb size block n st :=
  ⟨h.ne, h.one, h.most, h.len, h.row.tch k hb, h.state.tch k hs⟩
def PW (a : Act) (w : World) (b sb size block n i : Nat) (st : By) (x : UInt8) (a' : Act) (w' : World) : Prop :=
  Frm 81 a' ∧ Same [0, 1, 9, 10] a a' ∧ G a' 11 = .int .i64 ((i : Int) + 1) ∧ OwnAt w' b sb size block (n + 1) (ownStep size st n x) ∧ Tch [b, sb] w w'
set_option maxHeartbeats 1000000 in
set_option maxRecDepth 100000 in
theorem owRound (a : Act) (w : World) (h : Frm 81 a) (Q : Exit → Act → World → Prop) (b sb size block n i : Nat) (st : By) (pb po len cap : Nat) (x : UInt8)
    (hO : OwnAt w b sb size block n st) (hn : (n : Int) + 1 ≤ 9223372036854775807) (hi : i < len) (hl : (len : Int) ≤ 9223372036854775807)
    (g0 : G a 0 = .pointer (some ⟨b, 0, none⟩)) (g9 : G a 9 = .slice (some ⟨pb, po, none⟩) len cap) (g10 : G a 10 = .int .i64 len) (g11 : G a 11 = .int .i64 i)
    (cx : w.cell? ⟨pb, po + i, none⟩ = some (.int .u8 (ib x)))
    (hQ : ∀ a' w', PW a w b sb size block n i st x a' w' → Q .normal a' w') :
    (part (bodyOf Try.f117) [true, false, true, false, false]).wp Try.prog Q a w := by
  obtain ⟨hbs, hs, hs16, hst, hb, hsb⟩ := hO
  have b0 : w.cell? ⟨b, 0, none⟩ = some (.int .i64 size) := by rw [hb.cell]; rfl
  have b2 : w.cell? ⟨b, 2, none⟩ = some (.int .i64 n) := by rw [hb.cell]; rfl
  have b3 : w.cell? ⟨b, 3, none⟩ = some (.slice (some ⟨sb, 0, none⟩) size size) := by rw [hb.cell]; rfl
  have hk : n % size < size := Nat.mod_lt _ hs
  have hk1 : (n + 1) % size < size := Nat.mod_lt _ hs
  have hki : (n : Int) % (size : Int) < size := by exact_mod_cast hk
  have hki0 : 0 ≤ (n : Int) % (size : Int) := by omega
  have hk1i : ((n : Int) + 1) % (size : Int) < size := by exact_mod_cast hk1
  have hk1i0 : 0 ≤ ((n : Int) + 1) % (size : Int) := Int.emod_nonneg _ (by omega)
  have s1 : w.cell? ⟨sb, n % size, none⟩ = some (.int .u8 (ib (st.getD (n % size) 0))) := by
    rw [hsb.cell]; simp [List.getD_eq_getElem?_getD, List.getElem?_eq_getElem (show n % size < st.length by omega), vb]
  have f1 := hsb.free (n % size)
  have e1 := Ar.wrap_mul31
  have e2 := Ar.wrap_add8
  have e3 := Ar.wrap_of8 n
  have e4 := Ar.bits_xor8
  conv => arg 2; whnf
  rw [lit81 a h]
  simp only [g0, g9, g10, g11]
  have G0 := Lib.hid g0
  have G9 := Lib.hid g9
  have G10 := Lib.hid g10
  have HB := Lib.hid hb
  have HS := Lib.hid hsb
  have HST := Lib.hid hst
  clear h g0 g9 g10 g11 hb hsb hst
  go_wp2
  go_quiet (fail)
  go_wp2
  refine wp_region_quiet_tail 22 (by kernel_rfl) (by kernel_rfl) ?_
  simp only [List.take_succ_cons, List.take_zero, List.drop_succ_cons, List.drop_zero]
  repeat (go_big_quiet_step (fail))
  refine wpQuiet_nil ?_
  go_wp2
  generalize hv : (31 * st[n % size]?.getD 0 + x + UInt8.ofNat n) = v
  generalize hW1 : World.setCell _ _ _ = W1
  have T1 : Tch [b, sb] w W1 := by rw [← hW1]; exact (Tch.drewN w _).trans (Tch.setCell _ _ _ (by simp))
  have R1 : Row W1 sb 5 ((st.set (n % size) v).map vb) := by
    rw [← hW1, List.map_set]; exact (HS.out.drewN _).set _ _
  have RB : Row W1 b 106 [.int .i64 size, .int .i64 block, .int .i64 n, .slice (some ⟨sb, 0, none⟩) size size] := by
    rw [← hW1]; exact (HB.out.drewN _).setOther _ _ hbs
  have HW1 := Lib.hid hW1
  have HV := Lib.hid hv
  clear hW1 hv b0 b2 b3 s1 f1 cx
  have b0 : W1.cell? ⟨b, 0, none⟩ = some (.int .i64 size) := by rw [RB.cell]; rfl
  have b2 : W1.cell? ⟨b, 2, none⟩ = some (.int .i64 n) := by rw [RB.cell]; rfl
  have b3 : W1.cell? ⟨b, 3, none⟩ = some (.slice (some ⟨sb, 0, none⟩) size size) := by rw [RB.cell]; rfl
  have l1 : (st.set (n % size) v).length = size := by rw [List.length_set, HST.out]
  have s1 : W1.cell? ⟨sb, n % size, none⟩ = some (.int .u8 (ib v)) := by
    rw [R1.cell]; simp [HST.out, hk, vb]
  obtain ⟨y, hy⟩ : ∃ y, y = (st.set (n % size) v).getD ((n + 1) % size) 0 := ⟨_, rfl⟩
  have s2 : W1.cell? ⟨sb, (n + 1) % size, none⟩ = some (.int .u8 (ib y)) := by
    rw [R1.cell, hy, List.getElem?_map, List.getD_eq_getElem?_getD, List.getElem?_eq_getElem (by omega)]; rfl
  have f2 := R1.free ((n + 1) % size)
  have HR1 := Lib.hid R1
  have HRB := Lib.hid RB
  have HY := Lib.hid hy
  have HT1 := Lib.hid T1
  clear R1 RB hy T1 l1
  refine wp_region_quiet_tail 25 (by kernel_rfl) (by kernel_rfl) ?_
  simp only [List.take_succ_cons, List.take_zero, List.drop_succ_cons, List.drop_zero]
  repeat (go_big_quiet_step (fail))
  refine wpQuiet_nil ?_
  iterate 3 go_step
  generalize hW2 : (World.setCell _ _ _).drew = W2
  have T2 : Tch [b, sb] w W2 := by rw [← hW2]; exact HT1.out.trans ((Tch.setCell _ _ _ (by simp)).trans (Tch.drewN _ 1))
  have hst2 : ((st.set (n % size) v).map vb).set ((n + 1) % size) (.int .u8 (ib (y ^^^ v))) = (ownStep size st n x).map vb := by
    have e : v = 31 * st.getD (n % size) 0 + x + UInt8.ofNat n := by rw [← HV.out, List.getD_eq_getElem?_getD]
    have e2 : (st.set (n % size) v).getD (n % size) 0 = v := by simp [List.getD_eq_getElem?_getD, HST.out, hk]
    simp only [ownStep]
    rw [← e, e2, ← HY.out, List.map_set (l := st.set _ _)]; rfl
  have R2 : Row W2 sb 5 ((ownStep size st n x).map vb) := by
    rw [← hst2, ← hW2]; exact (HR1.out.set _ _).drewN 1
  have RB2 : Row W2 b 106 [.int .i64 size, .int .i64 block, .int .i64 n, .slice (some ⟨sb, 0, none⟩) size size] := by
    rw [← hW2]; exact (HRB.out.setOther _ _ hbs).drewN 1
  have k2 : W2.cell? ⟨b, 2, none⟩ = some (.int .i64 n) := by rw [RB2.cell]; rfl
  have kf : W2.frozen? ⟨b, 2, none⟩ = false := RB2.free 2
  have HT2 := Lib.hid T2
  have HR2 := Lib.hid R2
  have HRB2 := Lib.hid RB2
  clear hW2 T2 hst2 R2 RB2 b0 b2 b3 s1 s2 f2 hki hki0 hk1i hk1i0 hk hk1 e3
  go_wp2
  have E0 := G0.out
  have E9 := G9.out
  have E10 := G10.out
  exact ⟨⟨rfl, rfl⟩, ⟨E0.symm, rfl, E9.symm, E10.symm, trivial⟩, rfl, ⟨hbs, hs, hs16, by rw [ownStep_length, HST.out], HRB2.out.set 2 _, (HR2.out.setOther _ _ (Ne.symm hbs))⟩, HT2.out.trans (Tch.setCell _ _ _ (by simp))⟩
def PWX (a : Act) (w : World) (a' : Act) (w' : World) : Prop := Frm 81 a' ∧ Same [0, 1, 9, 10] a a' ∧ w' = w
set_option maxRecDepth 100000 in
theorem owLeave (a : Act) (w : World) (h : Frm 81 a) (Q : Exit → Act → World → Prop) (len : Nat) (g10 : G a 10 = .int .i64 len) (g11 : G a 11 = .int .i64 len)
    (hQ : ∀ a' w', PWX a w a' w' → Q (.exit 0) a' w') :
    (part (bodyOf Try.f117) [true, false, true, false, false]).wp Try.prog Q a w := by
  conv => arg 2; whnf
  rw [lit81 a h]
  simp only [g10, g11]
  have G10 := Lib.hid g10
  clear h g10 g11
  go_wp2
  have E10 := G10.out
  exact ⟨⟨rfl, rfl⟩, ⟨rfl, rfl, rfl, E10.symm, trivial⟩, rfl⟩
theorem owLoop_eq : part (bodyOf Try.f117) [true, false, true, false] = .loop (part (bodyOf Try.f117) [true, false, true, false, false]) := by kernel_rfl
structure OWI (a0 : Act) (w0 : World) (b sb size block n : Nat) (st p : By) (i : Nat) (a : Act) (w : World) : Prop where
  frm : Frm 81 a
  same : Same [0, 1, 9, 10] a0 a
  le : i ≤ p.length
  g11 : G a 11 = .int .i64 (i : Int)
  own : OwnAt w b sb size block (n + i) (ownFrom size st n (p.take i))
  tch : Tch [b, sb] w0 w
def OWE (a : Act) (w : World) (b sb size block n : Nat) (st p : By) (a' : Act) (w' : World) : Prop :=
  Frm 81 a' ∧ Same [0, 1, 9, 10] a a' ∧ OwnAt w' b sb size block (n + p.length) (ownFrom size st n p) ∧ Tch [b, sb] w w'
theorem owLoop (a : Act) (w : World) (h : Frm 81 a) (Q : Exit → Act → World → Prop) (b sb size block n : Nat) (st p : By) (v : Value) (hO : OwnAt w b sb size block n st) (hp : Rd w v p) (hoff : Off [b, sb] v)
    (hn : n + p.length ≤ maxLen) (g0 : G a 0 = .pointer (some ⟨b, 0, none⟩)) (g9 : G a 9 = v) (g10 : G a 10 = .int .i64 p.length) (g11 : G a 11 = .int .i64 0)
    (hQ : ∀ a' w', OWE a w b sb size block n st p a' w' → Q (.exit 0) a' w') :
    (part (bodyOf Try.f117) [true, false, true, false]).wp Try.prog Q a w := by
  rw [owLoop_eq]
  unfold maxLen at hn
  obtain ⟨q, cap, hv, hcap, hmax, hrd⟩ := hp
  refine wp_loop (fun a' w' => ∃ i, OWI a w b sb size block n st p i a' w') (fun a' _ => p.length - (intOf (G a' 11)).toNat) ⟨0, h, by simp [Same], by omega, g11, hO, Tch.refl _ _⟩ ?_
  rintro a1 w1 ⟨i, I⟩
  by_cases hi : i < p.length
  · obtain ⟨pb, po, rfl, hcell⟩ : ∃ pb po, q = some ⟨pb, po, none⟩ ∧ ∀ i x, p[i]? = some x → w.cell? ⟨pb, po + i, none⟩ = some (vb x) := by
      rcases hrd with h | h
      · rw [h] at hi; simp at hi
      · exact h
    have hx := I.tch.cell (hcell i _ (List.getElem?_eq_getElem hi)) (hoff pb (by rw [hv]; rfl))
    refine owRound a1 w1 I.frm _ b sb size block (n + i) i _ pb po p.length cap p[i] I.own (by omega) hi (by omega) ((I.same.get 0 rfl).trans g0) ((I.same.get 9 rfl).trans (g9.trans hv)) ((I.same.get 10 rfl).trans g10) I.g11 hx ?_
    rintro a' w' ⟨p1, p2, p3, p4, p5⟩
    simp only [Exit.then]
    refine ⟨⟨i + 1, p1, ?_, by omega, p3, ?_, I.tch.trans p5⟩, ?_⟩
    · have s := I.same
      simp only [Same] at s p2 ⊢
      simp only [p2, s, and_self]
    · have e : ownFrom size st n (p.take (i + 1)) = ownStep size (ownFrom size st n (p.take i)) (n + i) p[i] := by
        rw [List.take_succ_eq_append_getElem hi, ownFrom_append, List.length_take, Nat.min_eq_left (by omega)]; rfl
      rw [e]; exact p4
    · rw [p3, I.g11]; simp [intOf]; omega
  · have hi' : i = p.length := by have := I.le; omega
    subst hi'
    refine owLeave a1 w1 I.frm _ p.length ((I.same.get 10 rfl).trans g10) I.g11 ?_
    rintro a' w' ⟨p1, p2, rfl⟩
    simp only [Exit.then]
    have s := I.same
    have o := I.own
    rw [List.take_length] at o
    refine hQ _ _ ⟨p1, ?_, o, I.tch⟩
    simp only [Same] at s p2 ⊢
    simp only [p2, s, and_self]
set_option maxRecDepth 100000 in
/-- Write of the hash that is handed in. -/
theorem ownWrite (b sb size block n : Nat) (st p : By) (v : Value) (w : World) (hO : OwnAt w b sb size block n st) (hp : Rd w v p) (hoff : Off [b, sb] v) (hn : n + p.length ≤ maxLen) :
    Calls Try.prog 117 #[.pointer (some ⟨b, 0, none⟩), v] w fun e w' =>
      e = .returned (.tuple #[.int .i64 p.length, .nilIface]) ∧ OwnAt w' b sb size block (n + p.length) (ownFrom size st n p) ∧ Tch [b, sb] w w' := by
  obtain ⟨q, cap, hv, hcap, hmax, hrd⟩ := hp
  have hp : Rd w v p := ⟨q, cap, hv, hcap, hmax, hrd⟩
  have HP := Lib.hid hp
  have HO := Lib.hid hO
  have HF := Lib.hid hoff
  have HV := Lib.hid hv
  have HN := Lib.hid hn
  clear hp hO hoff hrd hn
  subst hv
  go_enter Try.func117, Try.ntmps117
  go_wp2
  refine owLoop _ _ ⟨rfl, rfl⟩ _ b sb size block n st p _ HO.out HP.out HF.out HN.out rfl rfl rfl rfl ?_
  rintro a' w' ⟨f, s, o, t⟩
  have g1 : G a' 1 = .slice q p.length cap := s.2.1
  rw [lit81 a' f]
  simp only [g1]
  have H := Lib.hid (And.intro o t)
  clear s o t f g1
  go_wp2
  go_ret2
  exact ⟨rfl, H.out⟩
end Go.Proofs.Ytgomodhhomekpaa
