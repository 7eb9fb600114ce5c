/-
  The hash that is handed in: a new one.
-/
import Derived.Test.YtgomodhhomekpaaOr
import Derived.Test.YtgomodhhomekpaaMk
namespace Go.Proofs.Ytgomodhhomekpaa
open Go.RowKit Pu Ar
/-- The sizes that a hash of the thin package takes. -/
def bad (s bl : Int) : Bool := s < 1 ∨ 16 < s ∨ bl < s ∨ 32 < bl
def OFT (a : Act) (w : World) (s bl : Int) (a' : Act) (w' : World) : Prop := Frm 47 a' ∧ Same [0, 1, 2, 3] a a' ∧ G a' 29 = .bool (bad s bl) ∧ w' = w
set_option maxRecDepth 100000 in
theorem ofTest (a : Act) (w : World) (h : Frm 47 a) (Q : Exit → Act → World → Prop) (c : Nat) (s bl : Int) (g1 : G a 1 = .pointer (some ⟨c, 0, none⟩))
    (c1 : w.cell? ⟨c, 1, none⟩ = some (.int .i64 s)) (c2 : w.cell? ⟨c, 2, none⟩ = some (.int .i64 bl))
    (hQ : ∀ a' w', OFT a w s bl a' w' → Q .normal a' w') :
    (part (bodyOf Try.f51) [true, true, false, false]).wp Try.prog Q a w := by
  conv => arg 2; whnf
  rw [lit47 a h]
  simp only [g1]
  have G1 := Lib.hid g1
  clear h g1
  by_cases h1 : s < 1
  · have hb : bad s bl = true := by simp [bad, h1]
    have HB := Lib.hid hb
    clear hb
    go_wp2
    have E1 := G1.out
    exact ⟨⟨rfl, rfl⟩, ⟨rfl, E1.symm, rfl, rfl, trivial⟩, by rw [HB.out]; rfl, rfl⟩
  by_cases h2 : 16 < s
  · have hb : bad s bl = true := by simp [bad, h2]
    have HB := Lib.hid hb
    clear hb
    go_wp2
    have E1 := G1.out
    exact ⟨⟨rfl, rfl⟩, ⟨rfl, E1.symm, rfl, rfl, trivial⟩, by rw [HB.out]; rfl, rfl⟩
  by_cases h3 : bl < s
  · have hb : bad s bl = true := by simp [bad, h3]
    have HB := Lib.hid hb
    clear hb
    go_wp2
    have E1 := G1.out
    exact ⟨⟨rfl, rfl⟩, ⟨rfl, E1.symm, rfl, rfl, trivial⟩, by rw [HB.out]; rfl, rfl⟩
  by_cases h4 : 32 < bl
  · have hb : bad s bl = true := by simp [bad, h4]
    have HB := Lib.hid hb
    clear hb
    go_wp2
    have E1 := G1.out
    exact ⟨⟨rfl, rfl⟩, ⟨rfl, E1.symm, rfl, rfl, trivial⟩, by rw [HB.out]; rfl, rfl⟩
  · have hb : bad s bl = false := by simp [bad, h1, h2, h3, h4]
    have HB := Lib.hid hb
    clear hb
    go_wp2
    have E1 := G1.out
    exact ⟨⟨rfl, rfl⟩, ⟨rfl, E1.symm, rfl, rfl, trivial⟩, by rw [HB.out]; rfl, rfl⟩
def OFE (w : World) (sz bk : Nat) (e : Ending) (w' : World) : Prop :=
  ∃ b sb, e = .returned (.pointer (some ⟨b, 0, none⟩)) ∧ Hid (OwnAt w' b sb sz bk 0 (ownInit sz) ∧ Tch [] w w' ∧ w.heap.size ≤ b ∧ w.heap.size ≤ sb)
set_option maxRecDepth 100000 in
theorem ofEnd (a : Act) (w0 w : World) (h : Frm 47 a) (b sz bk : Nat) (g3 : G a 3 = .pointer (some ⟨b, 0, none⟩)) (h1 : 1 ≤ sz) (h16 : sz ≤ 16)
    (hb : Row w b 106 [.int .i64 sz, .int .i64 bk, .int .i64 0, .slice none 0 0]) (ht : Tch [] w0 w) (hn : w0.heap.size ≤ b) :
    (part (bodyOf Try.f51) [true, true, true]).wp Try.prog (bodyPost Try.prog Try.f51 (OFE w0 sz bk)) a w := by
  have b0 : w.cell? ⟨b, 0, none⟩ = some (.int .i64 sz) := by rw [hb.cell]; rfl
  have f3 := hb.free 3
  have hi1 : (1 : Int) ≤ sz := by exact_mod_cast h1
  have hi16 : (sz : Int) ≤ 16 := by exact_mod_cast h16
  conv => arg 2; whnf
  rw [lit47 a h]
  simp only [g3]
  have HB := Lib.hid hb
  have HT := Lib.hid ht
  have HN := Lib.hid hn
  have H1' := Lib.hid h1
  have H16 := Lib.hid h16
  clear h g3 hb ht hn h1 h16
  refine wp_seq_k (fun K1 k1 => ?_)
  have H1 := Lib.hid k1
  clear k1
  obtain ⟨W, hW⟩ : ∃ W, W = w.alloc (.cells (List.replicate sz (Value.int .u8 0)).toArray 5) := ⟨_, rfl⟩
  have hmk : (Instr.makeSlice 24 (.int .i64 (sz : Int)) (.int .i64 (sz : Int))).run Try.prog w = .ok (.slice (some ⟨w.heap.size, 0, none⟩) sz sz) W := by
    rw [hW]; exact run_make_by sz sz (Nat.le_refl _) (by omega) w
  have RB : Hid (Row W b 106 [.int .i64 sz, .int .i64 bk, .int .i64 0, .slice none 0 0]) := by rw [hW]; exact HB.out.alloc _
  have RS : Hid (Row W w.heap.size 5 (List.replicate sz (Value.int .u8 0))) := by rw [hW]; exact Row.new w 5 _
  have TW : Hid (Tch [] w0 W) := by rw [hW]; exact HT.out.trans (Tch.alloc _ _)
  have W3 : W.cell? ⟨b, 3, none⟩ = some (.slice none 0 0) := by rw [RB.out.cell]; rfl
  have F3 := RB.out.free 3
  have hne : b ≠ w.heap.size := Nat.ne_of_lt HB.out.lt
  have HNE := Lib.hid hne
  clear hW f3 hne HT
  go_wp2
  generalize hW2 : World.setCell _ _ _ = W2
  have hN : w0.heap.size ≤ w.heap.size := Nat.le_of_lt (Nat.lt_of_le_of_lt HN.out HB.out.lt)
  have O2 : Hid (OwnAt W2 b w.heap.size sz bk 0 (List.replicate sz 0)) := by
    rw [← hW2]
    refine ⟨HNE.out, H1'.out, H16.out, by simp, RB.out.set 3 _, ?_⟩
    have := RS.out.setOther ⟨b, 3, none⟩ (.slice (some ⟨w.heap.size, 0, none⟩) sz sz) (Ne.symm HNE.out)
    rwa [List.map_replicate]
  have T2 : Hid (Tch [] w0 W2) := by
    rw [← hW2]; exact TW.out.new (Tch.setCell (S := [b]) _ _ _ (by simp)) (by intro i hi; right; rw [List.mem_singleton.1 hi]; exact HN.out)
  have HN2 := Lib.hid hN
  clear hW2 hmk W3 F3 hN b0
  obtain ⟨sb, hsb⟩ : ∃ sb, sb = w.heap.size := ⟨_, rfl⟩
  rw [← hsb] at O2 HN2
  clear RS RB TW HNE
  refine H1.out _ _ (wp_seq_k (fun K2 k2 => ?_))
  have H2 := Lib.hid k2
  clear k2 HB
  go_wp2_with (fail)
  refine (ownReset b sb sz bk 0 _ W2 O2.out).mono ?_
  rintro e W3 ⟨rfl, h3⟩
  go_wp2
  refine H2.out _ _ ?_
  go_wp2
  go_ret
  refine ⟨b, sb, rfl, h3.out.1, T2.out.new h3.out.2 ?_, HN.out, HN2.out⟩
  intro i hi
  right
  simp only [List.mem_cons, List.not_mem_nil, or_false] at hi
  rcases hi with rfl | rfl
  · exact HN.out
  · exact HN2.out
def szOf (s bl : Int) : Nat := if bad s bl then 1 else s.toNat
def blOf (s bl : Int) : Nat := if bad s bl then 16 else bl.toNat
theorem not_bad {s bl : Int} (h : bad s bl = false) : 1 ≤ s ∧ s ≤ 16 ∧ s ≤ bl ∧ bl ≤ 32 := by
  unfold bad at h
  have := of_decide_eq_false h
  omega
set_option maxRecDepth 100000 in
/-- A new hash of the thin package. -/
theorem ownFresh (k s bl : Int) (w : World) : Calls Try.prog 51 #[.agg #[.int .i64 k, .int .i64 s, .int .i64 bl]] w (OFE w (szOf s bl) (blOf s bl)) := by
  go_enter Try.func51, Try.ntmps51
  refine wp_seq_k (fun K0 k0 => ?_)
  have H0 := Lib.hid k0
  clear k0
  go_wp2
  generalize hW1 : World.alloc _ _ = W1
  have R1 : Row W1 w.heap.size 23 [.int .i64 k, .int .i64 s, .int .i64 bl] := by rw [← hW1]; exact Row.new w 23 _
  have T1 : Tch [] w W1 := by rw [← hW1]; exact Tch.alloc _ _
  clear hW1
  have c1 : W1.cell? ⟨w.heap.size, 1, none⟩ = some (.int .i64 s) := by rw [R1.cell]; rfl
  have c2 : W1.cell? ⟨w.heap.size, 2, none⟩ = some (.int .i64 bl) := by rw [R1.cell]; rfl
  have HR1 := Lib.hid R1
  have HT1 := Lib.hid T1
  clear R1 T1
  obtain ⟨c, hc⟩ : ∃ c, c = w.heap.size := ⟨_, rfl⟩
  rw [← hc] at c1 c2 HR1 ⊢
  have HC := Lib.hid hc
  clear hc
  refine H0.out _ _ (wp_seq_k (fun K1 k1 => ?_))
  have H1 := Lib.hid k1
  clear k1
  go_wp2
  generalize hW2 : World.alloc _ _ = W2
  have R2 : Row W2 W1.heap.size 106 [.int .i64 s, .int .i64 bl, .int .i64 0, .slice none 0 0] := by rw [← hW2]; exact Row.new W1 106 _
  have T2 : Tch [] W1 W2 := by rw [← hW2]; exact Tch.alloc _ _
  have HR2 := Lib.hid R2
  have HT2 := Lib.hid (HT1.out.trans T2)
  have c1' := T2.cell c1 (by simp)
  have c2' := T2.cell c2 (by simp)
  have HN := Lib.hid HT1.out.size
  clear hW2 R2 T2 HT1 c1 c2
  obtain ⟨b, hb⟩ : ∃ b, b = W1.heap.size := ⟨_, rfl⟩
  rw [← hb] at HR2 HN ⊢
  clear hb
  refine H1.out _ _ (wp_seq_k (fun K2 k2 => wp_seq_k (fun K3 k3 => ?_)))
  have H2 := Lib.hid k2
  have H3 := Lib.hid k3
  clear k2 k3
  refine ofTest _ W2 ⟨rfl, rfl⟩ _ c s bl rfl c1' c2' ?_
  rintro a' w' ⟨f, sm, g29, rfl⟩
  refine H3.out _ _ ?_
  have g3 : G a' 3 = .pointer (some ⟨b, 0, none⟩) := sm.get 3 rfl
  cases hbad : bad s bl with
  | true =>
    rw [hbad] at g29
    rw [lit47 a' f]
    simp only [g3, g29]
    have fr := fun j => HR2.out.free j
    have c0 : w'.cell? ⟨b, 0, none⟩ = some (.int .i64 s) := by rw [HR2.out.cell]; rfl
    have c1 : w'.cell? ⟨b, 1, none⟩ = some (.int .i64 bl) := by rw [HR2.out.cell]; rfl
    have HBAD := Lib.hid hbad
    clear f sm g3 g29 hbad c1' c2'
    go_wp2
    refine H2.out _ _ ?_
    have e1 : szOf s bl = 1 := by unfold szOf; rw [HBAD.out]; rfl
    have e2 : blOf s bl = 16 := by unfold blOf; rw [HBAD.out]; rfl
    rw [e1, e2]
    refine ofEnd _ w _ ⟨rfl, rfl⟩ b 1 16 rfl (by omega) (by omega) ((HR2.out.set 0 _).set 1 _) ?_ HN.out
    exact HT2.out.new ((Tch.setCell (S := [b]) _ _ _ (by simp)).trans (Tch.setCell (S := [b]) _ _ _ (by simp))) (by intro i hi; right; rw [List.mem_singleton.1 hi]; exact HN.out)
  | false =>
    rw [hbad] at g29
    rw [lit47 a' f]
    simp only [g3, g29]
    have HBAD := Lib.hid hbad
    clear f sm g3 g29 hbad c1' c2'
    go_wp2
    refine H2.out _ _ ?_
    obtain ⟨n1, n2, n3, n4⟩ := not_bad HBAD.out
    have e1 : szOf s bl = s.toNat := by unfold szOf; rw [HBAD.out]; rfl
    have e2 : blOf s bl = bl.toNat := by unfold blOf; rw [HBAD.out]; rfl
    rw [e1, e2]
    have hR := HR2.out
    rw [show s = ((s.toNat : Nat) : Int) by omega, show bl = ((bl.toNat : Nat) : Int) by omega] at hR
    exact ofEnd _ w _ ⟨rfl, rfl⟩ b s.toNat bl.toNat rfl (by omega) (by omega) hR HT2.out HN.out
end Go.Proofs.Ytgomodhhomekpaa
