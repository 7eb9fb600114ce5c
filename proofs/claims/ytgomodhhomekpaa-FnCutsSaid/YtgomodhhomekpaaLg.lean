/-
  laws.long.
-/
import Derived.Test.YtgomodhhomekpaaIa
namespace Go.Proofs.Ytgomodhhomekpaa
open Go.RowKit Pu Ar
def LGP (a : Act) (w : World) (n i : Nat) (a' : Act) (w' : World) : Prop := Frm 19 a' ∧ Same [6, 7] a a' ∧ G a' 3 = .int .i64 n ∧ G a' 8 = .int .i64 ((i : Int) + 1) ∧ w' = w
def LGR (w : World) (a' : Act) (w' : World) : Prop := Frm 19 a' ∧ G a' 2 = .bool true ∧ w' = w
set_option maxRecDepth 100000 in
theorem lgRound (a : Act) (w : World) (h : Frm 19 a) (Q : Exit → Act → World → Prop) (b po i k cap n m : Nat) (p : Option Addr) (c : Nat)
    (hi : i < k) (hk : (k : Int) ≤ 9223372036854775807) (cu : w.cell? ⟨b, po + i, none⟩ = some (.slice p m c)) (hn : (n : Int) ≤ 1048576) (hm : (m : Int) ≤ 2147483647)
    (g3 : G a 3 = .int .i64 n) (g6 : G a 6 = .slice (some ⟨b, po, none⟩) k cap) (g7 : G a 7 = .int .i64 k) (g8 : G a 8 = .int .i64 i)
    (hQ : n + m ≤ 1048576 → ∀ a' w', LGP a w (n + m) i a' w' → Q .normal a' w') (hR : 1048576 < n + m → ∀ a' w', LGR w a' w' → Q .ret a' w') :
    (part (bodyOf Try.f25) [true, true, false, true, false, false]).wp Try.prog Q a w := by
  have hii : (i : Int) < k := by exact_mod_cast hi
  conv => arg 2; whnf
  rw [lit19 a h]
  simp only [g3, g6, g7, g8]
  have G6 := Lib.hid g6
  have G7 := Lib.hid g7
  clear h g3 g6 g7 g8
  by_cases ht : n + m ≤ 1048576
  · have hQ1 := hQ ht
    have htt : ¬ (1048576 : Int) < n + m := by omega
    clear hQ hR ht
    go_wp2
    have E6 := G6.out
    have E7 := G7.out
    exact ⟨⟨rfl, rfl⟩, ⟨E6.symm, E7.symm, trivial⟩, rfl, rfl, rfl⟩
  · have hQ1 := hR (by omega)
    have htt : (1048576 : Int) < n + m := by omega
    clear hQ hR ht
    go_wp2
    exact ⟨⟨rfl, rfl⟩, rfl, rfl⟩
def LGX (w : World) (a' : Act) (w' : World) : Prop := Frm 19 a' ∧ w' = w
set_option maxRecDepth 100000 in
theorem lgLeave (a : Act) (w : World) (h : Frm 19 a) (Q : Exit → Act → World → Prop) (k : Nat) (g7 : G a 7 = .int .i64 k) (g8 : G a 8 = .int .i64 k)
    (hQ : ∀ a' w', LGX w a' w' → Q (.exit 0) a' w') :
    (part (bodyOf Try.f25) [true, true, false, true, false, false]).wp Try.prog Q a w := by
  conv => arg 2; whnf
  rw [lit19 a h]
  simp only [g7, g8]
  clear h g7 g8
  go_wp2
  exact ⟨⟨rfl, rfl⟩, rfl⟩
theorem lgLoop_eq : part (bodyOf Try.f25) [true, true, false, true, false] = .loop (part (bodyOf Try.f25) [true, true, false, true, false, false]) := by kernel_rfl
structure LGI (a0 : Act) (w0 : World) (ps : List By) (i : Nat) (a : Act) (w : World) : Prop where
  frm : Frm 19 a
  same : Same [6, 7] a0 a
  le : i ≤ ps.length
  g8 : G a 8 = .int .i64 (i : Int)
  g3 : G a 3 = .int .i64 ((ps.take i).flatten.length : Nat)
  small : (ps.take i).flatten.length ≤ 1048576
  w : w = w0
theorem lgLoop (a : Act) (w : World) (h : Frm 19 a) (Q : Exit → Act → World → Prop) (ps : List By) (v : Value) (hP : PRd w v ps) (hs : ∀ p ∈ ps, p.length ≤ 2147483647)
    (g3 : G a 3 = .int .i64 0) (g6 : G a 6 = v) (g7 : G a 7 = .int .i64 ps.length) (g8 : G a 8 = .int .i64 0)
    (hQ : ps.flatten.length ≤ 1048576 → ∀ a' w', LGX w a' w' → Q (.exit 0) a' w') (hR : 1048576 < ps.flatten.length → ∀ a' w', LGR w a' w' → Q .ret a' w') :
    (part (bodyOf Try.f25) [true, true, false, true, false]).wp Try.prog Q a w := by
  rw [lgLoop_eq]
  obtain ⟨q, cap, hv, hcap, hmax, hrd⟩ := hP
  unfold maxLen at hmax
  refine wp_loop (fun a' w' => ∃ i, LGI a w ps i a' w') (fun a' _ => ps.length - (intOf (G a' 8)).toNat) ⟨0, h, by simp [Same], by omega, g8, by simpa using g3, by simp, rfl⟩ ?_
  rintro a1 w1 ⟨i, I⟩
  obtain rfl := I.w
  by_cases hi : i < ps.length
  · obtain ⟨pb, po, rfl, hcell⟩ : ∃ b o, q = some ⟨b, o, none⟩ ∧ ∀ i x, ps[i]? = some x → ∃ u, w1.cell? ⟨b, o + i, none⟩ = some u ∧ Rd w1 u x := by
      rcases hrd with h | h
      · rw [h] at hi; simp at hi
      · exact h
    obtain ⟨u, cu, p, c, rfl, _⟩ := hcell i _ (List.getElem?_eq_getElem hi)
    have ef : (ps.take (i + 1)).flatten.length = (ps.take i).flatten.length + ps[i].length := by
      rw [List.take_succ_eq_append_getElem hi, List.flatten_append, List.length_append]; simp
    have hm := hs ps[i] (List.getElem_mem hi)
    have hsm := I.small
    refine lgRound a1 w1 I.frm _ pb po i ps.length cap _ ps[i].length p c hi (by omega) cu (by omega) (by omega) I.g3 ((I.same.get 6 rfl).trans (g6.trans hv)) ((I.same.get 7 rfl).trans g7) I.g8 ?_ ?_
    · rintro hle a' w' ⟨p1, p2, p3, p4, rfl⟩
      simp only [Exit.then]
      refine ⟨⟨i + 1, p1, ?_, by omega, p4, by rw [p3, ef], by rw [ef]; exact hle, rfl⟩, ?_⟩
      · have s := I.same
        simp only [Same] at s p2 ⊢
        simp only [p2, s, and_self]
      · rw [p4, I.g8]; simp [intOf]; omega
    · rintro hgt a' w' hr
      simp only [Exit.then]
      refine hR ?_ _ _ hr
      have := flatten_take_le ps (i + 1)
      omega
  · have hi' : i = ps.length := by have := I.le; omega
    subst hi'
    refine lgLeave a1 w1 I.frm _ ps.length ((I.same.get 7 rfl).trans g7) I.g8 ?_
    rintro a' w' hx
    simp only [Exit.then]
    refine hQ ?_ _ _ hx
    have := I.small
    rwa [List.take_length] at this
set_option maxRecDepth 100000 in
/-- laws.long. -/
theorem lLong (ps : List By) (v : Value) (w : World) (hP : PRd w v ps) (hs : ∀ p ∈ ps, p.length ≤ 2147483647) :
    Calls Try.prog 25 #[v] w fun e w' => e = .returned (.bool (decide (1048576 < ps.flatten.length))) ∧ w = w' := by
  obtain ⟨q, cap, rfl, _⟩ := id hP
  have HP := Lib.hid hP
  have HS := Lib.hid hs
  clear hP hs
  go_enter Try.func25, Try.ntmps25
  go_wp2
  refine lgLoop _ _ ⟨rfl, rfl⟩ _ ps _ HP.out HS.out rfl rfl rfl rfl ?_ ?_
  · rintro hle a' w' ⟨f, rfl⟩
    have hd : Hid (decide (1048576 < ps.flatten.length) = false) := decide_eq_false (by omega)
    rw [lit19 a' f]
    clear f hle
    go_wp2
    go_ret
    refine ⟨?_, rfl⟩
    rw [hd.out]; rfl
  · rintro hgt a' w' ⟨f, g2, rfl⟩
    have hd : Hid (decide (1048576 < ps.flatten.length) = true) := decide_eq_true hgt
    rw [lit19 a' f]
    simp only [g2]
    clear f g2 hgt
    go_wp2
    go_ret
    refine ⟨?_, rfl⟩
    rw [hd.out]; rfl
end Go.Proofs.Ytgomodhhomekpaa
