/-
  The hash that is handed in: Reset, BlockSize, Size.
-/
import Derived.Test.YtgomodhhomekpaaOw
namespace Go.Proofs.Ytgomodhhomekpaa
open Go.RowKit Pu Ar
def ORP (a : Act) (w : World) (b sb size block i : Nat) (st : By) (a' : Act) (w' : World) : Prop :=
  Frm 23 a' ∧ Same [0, 9, 10] a a' ∧ G a' 11 = .int .i64 ((i : Int) + 1) ∧ OwnAt w' b sb size block 0 (st.set i (UInt8.ofNat i)) ∧ Tch [b, sb] w w'
set_option maxRecDepth 100000 in
theorem orRound (a : Act) (w : World) (h : Frm 23 a) (Q : Exit → Act → World → Prop) (b sb size block i : Nat) (st : By)
    (hO : OwnAt w b sb size block 0 st) (hi : i < size)
    (g0 : G a 0 = .pointer (some ⟨b, 0, none⟩)) (g10 : G a 10 = .int .i64 size) (g11 : G a 11 = .int .i64 i)
    (hQ : ∀ a' w', ORP a w b sb size block i st a' w' → Q .normal a' w') :
    (part (bodyOf Try.f67) [true, true, false, false]).wp Try.prog Q a w := by
  obtain ⟨hbs, hs, hs16, hst, hb, hsb⟩ := hO
  have b3 : w.cell? ⟨b, 3, none⟩ = some (.slice (some ⟨sb, 0, none⟩) size size) := by rw [hb.cell]; rfl
  have hii : (i : Int) < size := by exact_mod_cast hi
  have hsi : (size : Int) ≤ 16 := by exact_mod_cast hs16
  have s1 : w.cell? ⟨sb, i, none⟩ = some (.int .u8 (ib (st.getD i 0))) := by
    rw [hsb.cell]; simp [List.getD_eq_getElem?_getD, List.getElem?_eq_getElem (show i < st.length by omega), vb]
  have f1 := hsb.free i
  have e3 := Ar.wrap_of8 i
  conv => arg 2; whnf
  rw [lit23 a h]
  simp only [g0, g10, g11]
  have G0 := Lib.hid g0
  have G10 := Lib.hid g10
  have HB := Lib.hid hb
  have HS := Lib.hid hsb
  have HST := Lib.hid hst
  clear h g0 g10 g11 hb hsb hst
  go_wp2
  have E0 := G0.out
  have E10 := G10.out
  refine ⟨⟨rfl, rfl⟩, ⟨E0.symm, rfl, E10.symm, trivial⟩, rfl, ⟨hbs, hs, hs16, by rw [List.length_set, HST.out], HB.out.setOther _ _ hbs, ?_⟩, Tch.setCell _ _ _ (by simp)⟩
  rw [List.map_set]; exact HS.out.set _ _
def ORPX (a : Act) (w : World) (a' : Act) (w' : World) : Prop := Frm 23 a' ∧ Same [0] a a' ∧ w' = w
set_option maxRecDepth 100000 in
theorem orLeave (a : Act) (w : World) (h : Frm 23 a) (Q : Exit → Act → World → Prop) (len : Nat) (g10 : G a 10 = .int .i64 len) (g11 : G a 11 = .int .i64 len)
    (hQ : ∀ a' w', ORPX a w a' w' → Q (.exit 0) a' w') :
    (part (bodyOf Try.f67) [true, true, false, false]).wp Try.prog Q a w := by
  conv => arg 2; whnf
  rw [lit23 a h]
  simp only [g10, g11]
  clear h g10 g11
  go_wp2
  exact ⟨⟨rfl, rfl⟩, ⟨rfl, trivial⟩, rfl⟩
theorem orLoop_eq : part (bodyOf Try.f67) [true, true, false] = .loop (part (bodyOf Try.f67) [true, true, false, false]) := by kernel_rfl
structure ORI (a0 : Act) (w0 : World) (b sb size block : Nat) (i : Nat) (a : Act) (w : World) : Prop where
  frm : Frm 23 a
  same : Same [0, 9, 10] a0 a
  le : i ≤ size
  g11 : G a 11 = .int .i64 (i : Int)
  own : ∃ st, OwnAt w b sb size block 0 st ∧ st.take i = (ownInit size).take i
  tch : Tch [b, sb] w0 w
theorem ownInit_get (size i : Nat) (h : i < size) : (ownInit size)[i]? = some (UInt8.ofNat i) := by
  unfold ownInit; simp [h]
theorem take_set_init (st : By) (size i : Nat) (hl : st.length = size) (hi : i < size) (h : st.take i = (ownInit size).take i) :
    (st.set i (UInt8.ofNat i)).take (i + 1) = (ownInit size).take (i + 1) := by
  apply List.ext_getElem?
  intro j
  have e := congrArg (fun L : By => L[j]?) h
  simp only [List.getElem?_take] at e ⊢
  by_cases hj : j < i
  · simp only [hj, if_true] at e
    rw [if_pos (by omega), if_pos (by omega), List.getElem?_set_ne (by omega)]; exact e
  · by_cases hj2 : j = i
    · subst hj2
      rw [if_pos (by omega), if_pos (by omega), List.getElem?_set_self (by omega), ownInit_get _ _ hi]
    · rw [if_neg (by omega), if_neg (by omega)]
def ORE (w : World) (b sb size block : Nat) (a' : Act) (w' : World) : Prop := Frm 23 a' ∧ OwnAt w' b sb size block 0 (ownInit size) ∧ Tch [b, sb] w w'
theorem orLoop (a : Act) (w : World) (h : Frm 23 a) (Q : Exit → Act → World → Prop) (b sb size block : Nat) (st : By) (hO : OwnAt w b sb size block 0 st)
    (g0 : G a 0 = .pointer (some ⟨b, 0, none⟩)) (g10 : G a 10 = .int .i64 size) (g11 : G a 11 = .int .i64 0)
    (hQ : ∀ a' w', ORE w b sb size block a' w' → Q (.exit 0) a' w') :
    (part (bodyOf Try.f67) [true, true, false]).wp Try.prog Q a w := by
  rw [orLoop_eq]
  refine wp_loop (fun a' w' => ∃ i, ORI a w b sb size block i a' w') (fun a' _ => size - (intOf (G a' 11)).toNat) ⟨0, h, by simp [Same], by omega, g11, ⟨st, hO, by simp⟩, Tch.refl _ _⟩ ?_
  rintro a1 w1 ⟨i, I⟩
  obtain ⟨st1, o1, o2⟩ := I.own
  by_cases hi : i < size
  · refine orRound a1 w1 I.frm _ b sb size block i st1 o1 hi ((I.same.get 0 rfl).trans g0) ((I.same.get 10 rfl).trans g10) I.g11 ?_
    rintro a' w' ⟨p1, p2, p3, p4, p5⟩
    simp only [Exit.then]
    refine ⟨⟨i + 1, p1, ?_, by omega, p3, ⟨_, p4, take_set_init _ _ _ o1.len hi o2⟩, I.tch.trans p5⟩, ?_⟩
    · have s := I.same
      simp only [Same] at s p2 ⊢
      simp only [p2, s, and_self]
    · rw [p3, I.g11]; simp [intOf]; omega
  · have hi' : i = size := by have := I.le; omega
    subst hi'
    refine orLeave a1 w1 I.frm _ i ((I.same.get 10 rfl).trans g10) I.g11 ?_
    rintro a' w' ⟨p1, p2, rfl⟩
    simp only [Exit.then]
    have e : st1 = ownInit i := by
      have e1 := List.take_of_length_le (Nat.le_of_eq o1.len)
      have e2 : (ownInit i).take i = ownInit i := List.take_of_length_le (by simp [ownInit])
      rw [e1, e2] at o2; exact o2
    subst e
    exact hQ _ _ ⟨p1, o1, I.tch⟩
set_option maxRecDepth 100000 in
/-- Reset of the hash that is handed in. -/
theorem ownReset (b sb size block n : Nat) (st : By) (w : World) (hO : OwnAt w b sb size block n st) :
    Calls Try.prog 67 #[.pointer (some ⟨b, 0, none⟩)] w fun e w' => e = .returned (.tuple #[]) ∧ Hid (OwnAt w' b sb size block 0 (ownInit size) ∧ Tch [b, sb] w w') := by
  obtain ⟨hbs, hs, hs16, hst, hb, hsb⟩ := hO
  have b2 : w.cell? ⟨b, 2, none⟩ = some (.int .i64 n) := by rw [hb.cell]; rfl
  have f2 := hb.free 2
  have O1 : Hid (OwnAt (w.setCell ⟨b, 2, none⟩ (.int .i64 0)) b sb size block 0 st) := ⟨hbs, hs, hs16, hst, hb.set 2 (.int .i64 0), hsb.setOther _ _ (Ne.symm hbs)⟩
  have b3 : (w.setCell ⟨b, 2, none⟩ (.int .i64 0)).cell? ⟨b, 3, none⟩ = some (.slice (some ⟨sb, 0, none⟩) size size) := by rw [O1.out.row.cell]; rfl
  clear hb hsb hst
  go_enter Try.func67, Try.ntmps67
  go_wp2
  refine orLoop _ _ ⟨rfl, rfl⟩ _ b sb size block st O1.out rfl rfl rfl ?_
  rintro a' w' ⟨f, o, t⟩
  rw [lit23 a' f]
  have H := Lib.hid (And.intro o ((Tch.setCell (S := [b, sb]) w ⟨b, 2, none⟩ (.int .i64 0) (by simp)).trans t))
  clear o t f
  go_wp2
  go_end0
  exact ⟨rfl, H.out⟩
set_option maxRecDepth 100000 in
theorem ownSize (b sb size block n : Nat) (st : By) (w : World) (hO : OwnAt w b sb size block n st) :
    Calls Try.prog 115 #[.pointer (some ⟨b, 0, none⟩)] w fun e w' => e = .returned (.int .i64 size) ∧ w = w' := by
  have b0 : w.cell? ⟨b, 0, none⟩ = some (.int .i64 size) := by rw [hO.row.cell]; rfl
  clear hO
  go_enter Try.func115, Try.ntmps115
  go_wp2
  go_ret
  exact ⟨rfl, rfl⟩
set_option maxRecDepth 100000 in
theorem ownBlockSize (b sb size block n : Nat) (st : By) (w : World) (hO : OwnAt w b sb size block n st) :
    Calls Try.prog 114 #[.pointer (some ⟨b, 0, none⟩)] w fun e w' => e = .returned (.int .i64 block) ∧ w = w' := by
  have b1 : w.cell? ⟨b, 1, none⟩ = some (.int .i64 block) := by rw [hO.row.cell]; rfl
  clear hO
  go_enter Try.func114, Try.ntmps114
  go_wp2
  go_ret
  exact ⟨rfl, rfl⟩
end Go.Proofs.Ytgomodhhomekpaa
