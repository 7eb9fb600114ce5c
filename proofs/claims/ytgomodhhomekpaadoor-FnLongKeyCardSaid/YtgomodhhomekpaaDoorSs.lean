/-
  The sizes that the reference names.
-/
import Derived.Test.YtgomodhhomekpaaDoorM4
namespace Go.Proofs.YtgomodhhomekpaaDoor
open Go.RowKit Pu Ar
def SST (a : Act) (w : World) (s bl : Int) (a' : Act) (w' : World) : Prop := Frm 31 a' ∧ Same [0, 1, 2, 3] a a' ∧ G a' 26 = .bool (bad s bl) ∧ w' = w
set_option maxRecDepth 100000 in
theorem ssTest (a : Act) (w : World) (h : Frm 31 a) (Q : Exit → Act → World → Prop) (c : Nat) (s bl : Int) (g1 : G a 1 = .pointer (some ⟨c, 0, none⟩))
    (c1 : w.cell? ⟨c, 1, none⟩ = some (.int .i64 s)) (c2 : w.cell? ⟨c, 2, none⟩ = some (.int .i64 bl))
    (hQ : ∀ a' w', SST a w s bl a' w' → Q .normal a' w') :
    (part (bodyOf Tryd.f20) [true, true, false, false]).wp Tryd.prog Q a w := by
  conv => arg 2; whnf
  rw [lit31 a h]
  simp only [g1]
  have G1 := Lib.hid g1
  clear h g1
  by_cases h1 : s < 1
  · have hb : bad s bl = true := by simp [bad, h1]
    have HB := Lib.hid hb
    clear hb
    go_wp2
    have E1 := G1.out
    exact ⟨⟨rfl, rfl⟩, ⟨rfl, E1.symm, rfl, rfl, trivial⟩, by rw [HB.out]; rfl, rfl⟩
  by_cases h2 : 16 < s
  · have hb : bad s bl = true := by simp [bad, h2]
    have HB := Lib.hid hb
    clear hb
    go_wp2
    have E1 := G1.out
    exact ⟨⟨rfl, rfl⟩, ⟨rfl, E1.symm, rfl, rfl, trivial⟩, by rw [HB.out]; rfl, rfl⟩
  by_cases h3 : bl < s
  · have hb : bad s bl = true := by simp [bad, h3]
    have HB := Lib.hid hb
    clear hb
    go_wp2
    have E1 := G1.out
    exact ⟨⟨rfl, rfl⟩, ⟨rfl, E1.symm, rfl, rfl, trivial⟩, by rw [HB.out]; rfl, rfl⟩
  by_cases h4 : 32 < bl
  · have hb : bad s bl = true := by simp [bad, h4]
    have HB := Lib.hid hb
    clear hb
    go_wp2
    have E1 := G1.out
    exact ⟨⟨rfl, rfl⟩, ⟨rfl, E1.symm, rfl, rfl, trivial⟩, by rw [HB.out]; rfl, rfl⟩
  · have hb : bad s bl = false := by simp [bad, h1, h2, h3, h4]
    have HB := Lib.hid hb
    clear hb
    go_wp2
    have E1 := G1.out
    exact ⟨⟨rfl, rfl⟩, ⟨rfl, E1.symm, rfl, rfl, trivial⟩, by rw [HB.out]; rfl, rfl⟩
def szK (k s bl : Int) : Nat := if k = 1 then 32 else szOf s bl
def blK (k s bl : Int) : Nat := if k = 1 then 64 else blOf s bl
set_option maxRecDepth 100000 in
theorem sSizes (k s bl : Int) (w : World) : Calls Tryd.prog 20 #[.agg #[.int .i64 k, .int .i64 s, .int .i64 bl]] w fun e w' => e = .returned (.tuple #[.int .i64 (szK k s bl), .int .i64 (blK k s bl)]) ∧ Hid (Tch [] w w') := by
  go_enter Tryd.func20, Tryd.ntmps20
  refine wp_seq_k (fun K0 k0 => ?_)
  have H0 := Lib.hid k0
  clear k0
  go_wp2
  generalize hW1 : World.alloc _ _ = W1
  have R1 : Row W1 w.heap.size 23 [.int .i64 k, .int .i64 s, .int .i64 bl] := by rw [← hW1]; exact Row.new w 23 _
  have T1 : Hid (Tch [] w W1) := by rw [← hW1]; exact Tch.alloc _ _
  have c0 : W1.cell? ⟨w.heap.size, 0, none⟩ = some (.int .i64 k) := by rw [R1.cell]; rfl
  have c1 : W1.cell? ⟨w.heap.size, 1, none⟩ = some (.int .i64 s) := by rw [R1.cell]; rfl
  have c2 : W1.cell? ⟨w.heap.size, 2, none⟩ = some (.int .i64 bl) := by rw [R1.cell]; rfl
  clear hW1 R1
  obtain ⟨c, hc⟩ : ∃ c, c = w.heap.size := ⟨_, rfl⟩
  rw [← hc] at c0 c1 c2 ⊢
  clear hc
  by_cases hk : k = 1
  · have e1 : szK k s bl = 32 := by unfold szK; rw [if_pos hk]
    have e2 : blK k s bl = 64 := by unfold blK; rw [if_pos hk]
    have E1 := Lib.hid e1
    have E2 := Lib.hid e2
    subst hk
    clear e1 e2
    refine H0.out _ _ (wp_seq_k (fun K1 k1 => ?_))
    go_wp2
    go_ret2
    refine ⟨?_, T1.out⟩
    rw [E1.out, E2.out]; rfl
  · have e1 : szK k s bl = szOf s bl := by unfold szK; rw [if_neg hk]
    have e2 : blK k s bl = blOf s bl := by unfold blK; rw [if_neg hk]
    have E1 := Lib.hid e1
    have E2 := Lib.hid e2
    have hkb : (k == 1) = false := by simpa using hk
    clear e1 e2
    refine H0.out _ _ (wp_seq_k (fun K1 k1 => ?_))
    have H1 := Lib.hid k1
    clear k1
    go_wp2
    clear c0
    refine H1.out _ _ (wp_seq_k (fun K2 k2 => wp_seq_k (fun K3 k3 => ?_)))
    have H2 := Lib.hid k2
    have H3 := Lib.hid k3
    clear k2 k3
    refine ssTest _ W1 ⟨rfl, rfl⟩ _ c s bl rfl c1 c2 ?_
    rintro a' w' ⟨f, sm, g26, rfl⟩
    refine H3.out _ _ ?_
    have g1 : G a' 1 = .pointer (some ⟨c, 0, none⟩) := sm.get 1 rfl
    rw [lit31 a' f]
    cases hbad : bad s bl with
    | true =>
      rw [hbad] at g26
      simp only [g1, g26]
      have e1 : szOf s bl = 1 := by unfold szOf; rw [hbad]; rfl
      have e2 : blOf s bl = 16 := by unfold blOf; rw [hbad]; rfl
      have F1 := Lib.hid e1
      have F2 := Lib.hid e2
      clear f sm g1 g26 hbad e1 e2
      go_wp2
      go_ret2
      refine ⟨?_, T1.out⟩
      rw [E1.out, E2.out, F1.out, F2.out]; rfl
    | false =>
      rw [hbad] at g26
      simp only [g1, g26]
      obtain ⟨n1, n2, n3, n4⟩ := not_bad hbad
      have e1 : szOf s bl = s.toNat := by unfold szOf; rw [hbad]; rfl
      have e2 : blOf s bl = bl.toNat := by unfold blOf; rw [hbad]; rfl
      have F1 : Hid (((szOf s bl : Nat) : Int) = s) := by rw [e1]; show ((s.toNat : Nat) : Int) = s; omega
      have F2 : Hid (((blOf s bl : Nat) : Int) = bl) := by rw [e2]; show ((bl.toNat : Nat) : Int) = bl; omega
      clear f sm g1 g26 hbad e1 e2 n1 n2 n3 n4
      go_wp2
      refine H2.out _ _ ?_
      go_wp2
      go_quiet (fail)
      go_wp2
      go_ret2
      refine ⟨?_, T1.out.trans (Tch.drewN _ _)⟩
      rw [E1.out, E2.out, F1.out, F2.out]; rfl
theorem kind_size (kt : List UInt32) (k s bl : Int) : (kindOf kt k s bl).size = szK k s bl := by
  unfold kindOf szK szOf bad
  by_cases hk : k = 1
  · rw [if_pos hk, if_pos hk]; rfl
  · rw [if_neg hk, if_neg hk]
    by_cases h : s < 1 ∨ 16 < s ∨ bl < s ∨ 32 < bl
    · rw [if_pos h, decide_eq_true h]; rfl
    · rw [if_neg h, decide_eq_false h]; rfl
theorem kind_block (kt : List UInt32) (k s bl : Int) : (kindOf kt k s bl).block = blK k s bl := by
  unfold kindOf blK blOf bad
  by_cases hk : k = 1
  · rw [if_pos hk, if_pos hk]; rfl
  · rw [if_neg hk, if_neg hk]
    by_cases h : s < 1 ∨ 16 < s ∨ bl < s ∨ 32 < bl
    · rw [if_pos h, decide_eq_true h]; rfl
    · rw [if_neg h, decide_eq_false h]; rfl
set_option maxRecDepth 100000 in
theorem sSize (k s bl : Int) (w : World) : Calls Tryd.prog 11 #[.agg #[.int .i64 k, .int .i64 s, .int .i64 bl]] w fun e w' => e = .returned (.int .i64 (szK k s bl)) ∧ Hid (Tch [] w w') := by
  go_enter Tryd.func11, Tryd.ntmps11
  go_wp2_with (fail)
  refine (sSizes k s bl _).mono ?_
  rintro e W1 ⟨rfl, h⟩
  have h : Tch [] w W1 := Tch.trans (Tch.alloc _ _) h.out
  have H := Lib.hid h
  clear h
  go_wp2
  go_ret
  exact ⟨rfl, H.out⟩
set_option maxRecDepth 100000 in
theorem sBlock (k s bl : Int) (w : World) : Calls Tryd.prog 9 #[.agg #[.int .i64 k, .int .i64 s, .int .i64 bl]] w fun e w' => e = .returned (.int .i64 (blK k s bl)) ∧ Hid (Tch [] w w') := by
  go_enter Tryd.func9, Tryd.ntmps9
  go_wp2_with (fail)
  refine (sSizes k s bl _).mono ?_
  rintro e W1 ⟨rfl, h⟩
  have h : Tch [] w W1 := Tch.trans (Tch.alloc _ _) h.out
  have H := Lib.hid h
  clear h
  go_wp2
  go_ret
  exact ⟨rfl, H.out⟩
end Go.Proofs.YtgomodhhomekpaaDoor
