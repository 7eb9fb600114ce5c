/-
  copied; Sum of the thin package.
-/
import Derived.Test.YtgomodhhomekpaaDoorOs2
import Derived.Test.YtgomodhhomekpaaDoorOf
namespace Go.Proofs.YtgomodhhomekpaaDoor
open Go.RowKit Pu Ar
set_option maxRecDepth 100000 in
theorem iCopied (v : Value) (l : By) (w : World) (hv : Rd w v l) (hsz : l.length ≤ 140737488355328) :
    Calls Tryd.prog 14 #[v] w fun e w' => ∃ v', e = .returned v' ∧ Hid (Grew w w' (.slice none 0 0) v' l ∧ (v' = .slice none 0 0 ↔ l = [])) := by
  have HV := Lib.hid hv
  have HS := Lib.hid hsz
  clear hv hsz
  go_enter Tryd.func14, Tryd.ntmps14
  go_wp2_with (refine wpList_append_by rfl _ _ rfl (.slice none 0 0) v [] l rfl rfl (Own.nil w) HV.out (by have := HS.out; simp only [List.length_nil]; omega) ?_)
  intro v' w' h5
  go_wp2
  go_ret
  obtain ⟨o1, o2, o3, o4⟩ := h5.out
  exact ⟨v', rfl, ⟨o1, o2, o4⟩, by simpa using o3⟩
theorem ownState_nil (size : Nat) : ownState size [] = ownInit size := rfl
theorem Grew.tchNil {w w' : World} {v' : Value} {l : By} (h : Grew w w' (.slice none 0 0) v' l) : Tch [] w w' := h.2.1
theorem Grew.fresh {w w' : World} {v' : Value} {l : By} (h : Grew w w' (.slice none 0 0) v' l) {S : List Nat} (hS : ∀ b ∈ S, b < w.heap.size) : Off S v' := by
  intro b hb hm
  rcases h.2.2 with h3 | ⟨g, h3, hg⟩
  · rw [h3] at hb; cases hb
  · rw [h3] at hb; simp only [Option.some.injEq] at hb; subst hb; have := hS _ hm; omega
theorem bad_kind (kt : List UInt32) (k s bl : Int) (hk : k ≠ 1) : kindOf kt k s bl = .own (szOf s bl) (blOf s bl) := by
  unfold kindOf szOf blOf bad
  rw [if_neg hk]
  by_cases h : s < 1 ∨ 16 < s ∨ bl < s ∨ 32 < bl
  · rw [if_pos h, decide_eq_true h]; rfl
  · rw [if_neg h, decide_eq_false h]; rfl
theorem kind_sha (kt : List UInt32) (s bl : Int) : kindOf kt 1 s bl = .sha kt := rfl
set_option maxHeartbeats 400000 in
set_option maxRecDepth 100000 in
theorem iSum (kt : List UInt32) (k s bl : Int) (v : Value) (l : By) (w : World) (hK : KIs w kt) (hv : Rd w v l) (hsz : l.length ≤ 1099511627776) :
    Calls Tryd.prog 7 #[.agg #[.int .i64 k, .int .i64 s, .int .i64 bl], v] w fun e w' => ∃ v', e = .returned v' ∧ Hid (Grew w w' (.slice none 0 0) v' ((kindOf kt k s bl).hash l)) := by
  have HV := Lib.hid hv
  have HS := Lib.hid hsz
  have HK := Lib.hid hK
  clear hv hsz hK
  go_enter Tryd.func7, Tryd.ntmps7
  refine wp_seq_k (fun K0 k0 => ?_)
  have H0 := Lib.hid k0
  clear k0
  go_wp2
  generalize hW1 : World.alloc _ _ = W1
  have R1 : Row W1 w.heap.size 23 [.int .i64 k, .int .i64 s, .int .i64 bl] := by rw [← hW1]; exact Row.new w 23 _
  have T1 : Hid (Tch [] w W1) := by rw [← hW1]; exact Tch.alloc _ _
  have c0 : W1.cell? ⟨w.heap.size, 0, none⟩ = some (.int .i64 k) := by rw [R1.cell]; rfl
  have HR1 := Lib.hid R1
  clear hW1 R1
  obtain ⟨c, hc⟩ : ∃ c, c = w.heap.size := ⟨_, rfl⟩
  rw [← hc] at c0 HR1 ⊢
  clear hc
  by_cases hk : k = 1
  · subst hk
    refine H0.out _ _ (wp_seq_k (fun K1 k1 => ?_))
    have H1 := Lib.hid k1
    clear k1
    go_wp2_with (fail)
    refine (digNew kt W1).mono ?_
    rintro e W2 ⟨rfl, h2⟩
    obtain ⟨d2, t2, n2⟩ := h2.out
    have T2 : Hid (Tch [] w W2) := T1.out.trans t2
    have D2 := Lib.hid d2
    clear h2 d2 t2 n2 c0
    obtain ⟨b, hb⟩ : ∃ b, b = W1.heap.size := ⟨_, rfl⟩
    rw [← hb] at D2 ⊢
    have hbw : Hid (w.heap.size ≤ b) := by rw [hb]; exact T1.out.size
    clear hb
    go_wp2_with (fail)
    refine (iCopied v l W2 (HV.out.tch T2.out (by intro i _; simp)) (by have := HS.out; omega)).mono ?_
    rintro e W3 ⟨v3, rfl, h3⟩
    have D3 : Hid (DigIs W3 b kt []) := D2.out.tch h3.out.1.tchNil (by simp)
    have T3 : Hid (Tch [] w W3) := T2.out.trans h3.out.1.tchNil
    have hb2 : b < W2.heap.size := D2.out.2.choose_spec.1.row.lt
    have F3 : Hid (Off [b] v3) := h3.out.1.fresh (by simp [hb2])
    clear hb2
    go_wp2_with (fail)
    refine (digWrite kt b [] l v3 W3 (HK.out.tch T3.out (by simp)) D3.out h3.out.1.1.rd h3.out.1.1.nm F3.out (by have := HS.out; simp; omega)).mono ?_
    rintro e W4 ⟨rfl, h4⟩
    obtain ⟨d4, t4⟩ := h4.out
    have T4 : Hid (Tch [] w W4) := T3.out.new t4 (by intro i hi; right; rw [List.mem_singleton.1 hi]; exact hbw.out)
    have D4 := Lib.hid d4
    clear d4 t4 h4
    go_wp2_with (fail)
    refine (digSum kt b ([] ++ l) [] (.slice none 0 0) W4 (HK.out.tch T4.out (by simp)) D4.out (by have := HS.out; simp; omega) (Own.nil _) (by simp)).mono ?_
    rintro e W5 ⟨v5, rfl, h5⟩
    go_wp2
    go_ret
    refine ⟨v5, rfl, h5.out.1, T4.out.trans h5.out.2.1, ?_⟩
    rcases h5.out.2.2 with h | ⟨g, h, hg⟩
    · exact .inl h
    · exact .inr ⟨g, h, Nat.le_trans T4.out.size hg⟩
  · have hkb : (k == 1) = false := by simpa using hk
    refine H0.out _ _ (wp_seq_k (fun K1 k1 => ?_))
    have H1 := Lib.hid k1
    clear k1
    go_wp2
    clear c0
    refine H1.out _ _ (wp_seq_k (fun K2 k2 => ?_))
    have H2 := Lib.hid k2
    clear k2
    go_wp2_with (first | (refine wpList_load_row rfl 23 _ rfl c rfl 23 #[.int .i64 k, .int .i64 s, .int .i64 bl] (0, 0) _ HR1.out Tryd.underlying23 rfl (by kernel_rfl) ?_) | fail)
    refine (ownFresh k s bl W1).mono ?_
    rintro e W2 ⟨b, sb, rfl, h2⟩
    obtain ⟨o2, t2, n2, m2⟩ := h2.out
    have T2 : Hid (Tch [] w W2) := T1.out.trans t2
    have O2 := Lib.hid o2
    have B2 : Hid (w.heap.size ≤ b ∧ w.heap.size ≤ sb) := ⟨Nat.le_trans T1.out.size n2, Nat.le_trans T1.out.size m2⟩
    clear h2 o2 t2 n2 m2
    go_wp2
    refine H2.out _ _ (wp_seq_k (fun K3 k3 => ?_))
    have H3 := Lib.hid k3
    clear k3
    go_wp2_with (fail)
    refine (iCopied v l W2 (HV.out.tch T2.out (by intro i _; simp)) (by have := HS.out; omega)).mono ?_
    rintro e W3 ⟨v3, rfl, h3⟩
    have O3 : Hid (OwnAt W3 b sb (szOf s bl) (blOf s bl) 0 (ownInit (szOf s bl))) := O2.out.tch h3.out.1.tchNil (by simp) (by simp)
    have T3 : Hid (Tch [] w W3) := T2.out.trans h3.out.1.tchNil
    have hb2 := O2.out.row.lt
    have hb3 := O2.out.state.lt
    have F3 : Hid (Off [b, sb] v3) := h3.out.1.fresh (by simp [hb2, hb3])
    clear hb2 hb3
    go_wp2_with (fail)
    refine (ownWrite b sb (szOf s bl) (blOf s bl) 0 _ l v3 W3 O3.out h3.out.1.1.rd F3.out (by have := HS.out; unfold maxLen; omega)).mono ?_
    rintro e W4 ⟨rfl, o4, t4⟩
    have T4 : Hid (Tch [] w W4) := T3.out.new t4 (by
      intro i hi; right
      simp only [List.mem_cons, List.not_mem_nil, or_false] at hi
      rcases hi with rfl | rfl
      · exact B2.out.1
      · exact B2.out.2)
    have O4 := Lib.hid o4
    clear o4 t4
    go_wp2
    refine H3.out _ _ (wp_seq_k (fun K4 k4 => ?_))
    have H4 := Lib.hid k4
    clear k4
    go_wp2_with (fail)
    refine (ownSum b sb (szOf s bl) (blOf s bl) (0 + l.length) _ [] (.slice none 0 0) W4 O4.out (Own.nil _) (by intro i hi; cases hi) (by have := HS.out; unfold maxLen; omega) (by simp)).mono ?_
    rintro e W5 ⟨v5, rfl, h5⟩
    go_wp2
    refine H4.out _ _ ?_
    go_wp2
    go_ret
    refine ⟨v5, rfl, ?_, T4.out.trans h5.out.2.1, ?_⟩
    · have := h5.out.1
      rw [bad_kind kt k s bl hk]
      simpa [Pu.HK.hash, own, ownState] using this
    rcases h5.out.2.2 with h | ⟨g, h, hg⟩
    · exact .inl h
    · exact .inr ⟨g, h, Nat.le_trans T4.out.size hg⟩
end Go.Proofs.YtgomodhhomekpaaDoor
