/-
  A part of what this claim leans on: Cp, Hc, Hi, Hw, Hm, Hs, Hl, Hn, Hp. No conditions of its own.
-/
import Derived.Defers
import Derived.Recover
import Derived.LaidEql
import Derived.Handy
import Derived.Test.YtgomodhhomekpaaDoorM2
/-
  copied; Sum of the thin package.
-/
namespace Go.Proofs.YtgomodhhomekpaaDoor
open Go.RowKit Pu Ar
set_option maxRecDepth 100000 in
theorem iCopied (v : Value) (l : By) (w : World) (hv : Rd w v l) (hsz : l.length ≤ 140737488355328) :
    Calls Tryd.prog 14 #[v] w fun e w' => ∃ v', e = .returned v' ∧ Hid (Grew w w' (.slice none 0 0) v' l ∧ (v' = .slice none 0 0 ↔ l = [])) := by
  have HV := Lib.hid hv
  have HS := Lib.hid hsz
  clear hv hsz
  go_enter Tryd.func14, Tryd.ntmps14
  go_wp2_with (refine wpList_append_by rfl _ _ rfl (.slice none 0 0) v [] l rfl rfl (Own.nil w) HV.out (by have := HS.out; simp only [List.length_nil]; omega) ?_)
  intro v' w' h5
  go_wp2
  go_ret
  obtain ⟨o1, o2, o3, o4⟩ := h5.out
  exact ⟨v', rfl, ⟨o1, o2, o4⟩, by simpa using o3⟩
theorem ownState_nil (size : Nat) : ownState size [] = ownInit size := rfl
theorem Grew.tchNil {w w' : World} {v' : Value} {l : By} (h : Grew w w' (.slice none 0 0) v' l) : Tch [] w w' := h.2.1
theorem Grew.fresh {w w' : World} {v' : Value} {l : By} (h : Grew w w' (.slice none 0 0) v' l) {S : List Nat} (hS : ∀ b ∈ S, b < w.heap.size) : Off S v' := by
  intro b hb hm
  rcases h.2.2 with h3 | ⟨g, h3, hg⟩
  · rw [h3] at hb; cases hb
  · rw [h3] at hb; simp only [Option.some.injEq] at hb; subst hb; have := hS _ hm; omega
theorem bad_kind (kt : List UInt32) (k s bl : Int) (hk : k ≠ 1) : kindOf kt k s bl = .own (szOf s bl) (blOf s bl) := by
  unfold kindOf szOf blOf bad
  rw [if_neg hk]
  by_cases h : s < 1 ∨ 16 < s ∨ bl < s ∨ 32 < bl
  · rw [if_pos h, decide_eq_true h]; rfl
  · rw [if_neg h, decide_eq_false h]; rfl
theorem kind_sha (kt : List UInt32) (s bl : Int) : kindOf kt 1 s bl = .sha kt := rfl
set_option maxHeartbeats 400000 in
set_option maxRecDepth 100000 in
theorem iSum (kt : List UInt32) (k s bl : Int) (v : Value) (l : By) (w : World) (hK : KIs w kt) (hv : Rd w v l) (hsz : l.length ≤ 1099511627776) :
    Calls Tryd.prog 7 #[.agg #[.int .i64 k, .int .i64 s, .int .i64 bl], v] w fun e w' => ∃ v', e = .returned v' ∧ Hid (Grew w w' (.slice none 0 0) v' ((kindOf kt k s bl).hash l)) := by
  have HV := Lib.hid hv
  have HS := Lib.hid hsz
  have HK := Lib.hid hK
  clear hv hsz hK
  go_enter Tryd.func7, Tryd.ntmps7
  refine wp_seq_k (fun K0 k0 => ?_)
  have H0 := Lib.hid k0
  clear k0
  go_wp2
  generalize hW1 : World.alloc _ _ = W1
  have R1 : Row W1 w.heap.size 23 [.int .i64 k, .int .i64 s, .int .i64 bl] := by rw [← hW1]; exact Row.new w 23 _
  have T1 : Hid (Tch [] w W1) := by rw [← hW1]; exact Tch.alloc _ _
  have c0 : W1.cell? ⟨w.heap.size, 0, none⟩ = some (.int .i64 k) := by rw [R1.cell]; rfl
  have HR1 := Lib.hid R1
  clear hW1 R1
  obtain ⟨c, hc⟩ : ∃ c, c = w.heap.size := ⟨_, rfl⟩
  rw [← hc] at c0 HR1 ⊢
  clear hc
  by_cases hk : k = 1
  · subst hk
    refine H0.out _ _ (wp_seq_k (fun K1 k1 => ?_))
    have H1 := Lib.hid k1
    clear k1
    go_wp2_with (fail)
    refine (digNew kt W1).mono ?_
    rintro e W2 ⟨rfl, h2⟩
    obtain ⟨d2, t2, n2⟩ := h2.out
    have T2 : Hid (Tch [] w W2) := T1.out.trans t2
    have D2 := Lib.hid d2
    clear h2 d2 t2 n2 c0
    obtain ⟨b, hb⟩ : ∃ b, b = W1.heap.size := ⟨_, rfl⟩
    rw [← hb] at D2 ⊢
    have hbw : Hid (w.heap.size ≤ b) := by rw [hb]; exact T1.out.size
    clear hb
    go_wp2_with (fail)
    refine (iCopied v l W2 (HV.out.tch T2.out (by intro i _; simp)) (by have := HS.out; omega)).mono ?_
    rintro e W3 ⟨v3, rfl, h3⟩
    have D3 : Hid (DigIs W3 b kt []) := D2.out.tch h3.out.1.tchNil (by simp)
    have T3 : Hid (Tch [] w W3) := T2.out.trans h3.out.1.tchNil
    have hb2 : b < W2.heap.size := D2.out.2.choose_spec.1.row.lt
    have F3 : Hid (Off [b] v3) := h3.out.1.fresh (by simp [hb2])
    clear hb2
    go_wp2_with (fail)
    refine (digWrite kt b [] l v3 W3 (HK.out.tch T3.out (by simp)) D3.out h3.out.1.1.rd h3.out.1.1.nm F3.out (by have := HS.out; simp; omega)).mono ?_
    rintro e W4 ⟨rfl, h4⟩
    obtain ⟨d4, t4⟩ := h4.out
    have T4 : Hid (Tch [] w W4) := T3.out.new t4 (by intro i hi; right; rw [List.mem_singleton.1 hi]; exact hbw.out)
    have D4 := Lib.hid d4
    clear d4 t4 h4
    go_wp2_with (fail)
    refine (digSum kt b ([] ++ l) [] (.slice none 0 0) W4 (HK.out.tch T4.out (by simp)) D4.out (by have := HS.out; simp; omega) (Own.nil _) (by simp)).mono ?_
    rintro e W5 ⟨v5, rfl, h5⟩
    go_wp2
    go_ret
    refine ⟨v5, rfl, h5.out.1, T4.out.trans h5.out.2.1, ?_⟩
    rcases h5.out.2.2 with h | ⟨g, h, hg⟩
    · exact .inl h
    · exact .inr ⟨g, h, Nat.le_trans T4.out.size hg⟩
  · have hkb : (k == 1) = false := by simpa using hk
    refine H0.out _ _ (wp_seq_k (fun K1 k1 => ?_))
    have H1 := Lib.hid k1
    clear k1
    go_wp2
    clear c0
    refine H1.out _ _ (wp_seq_k (fun K2 k2 => ?_))
    have H2 := Lib.hid k2
    clear k2
    go_wp2_with (first | (refine wpList_load_row rfl 23 _ rfl c rfl 23 #[.int .i64 k, .int .i64 s, .int .i64 bl] (0, 0) _ HR1.out Tryd.underlying23 rfl (by kernel_rfl) ?_) | fail)
    refine (ownFresh k s bl W1).mono ?_
    rintro e W2 ⟨b, sb, rfl, h2⟩
    obtain ⟨o2, t2, n2, m2⟩ := h2.out
    have T2 : Hid (Tch [] w W2) := T1.out.trans t2
    have O2 := Lib.hid o2
    have B2 : Hid (w.heap.size ≤ b ∧ w.heap.size ≤ sb) := ⟨Nat.le_trans T1.out.size n2, Nat.le_trans T1.out.size m2⟩
    clear h2 o2 t2 n2 m2
    go_wp2
    refine H2.out _ _ (wp_seq_k (fun K3 k3 => ?_))
    have H3 := Lib.hid k3
    clear k3
    go_wp2_with (fail)
    refine (iCopied v l W2 (HV.out.tch T2.out (by intro i _; simp)) (by have := HS.out; omega)).mono ?_
    rintro e W3 ⟨v3, rfl, h3⟩
    have O3 : Hid (OwnAt W3 b sb (szOf s bl) (blOf s bl) 0 (ownInit (szOf s bl))) := O2.out.tch h3.out.1.tchNil (by simp) (by simp)
    have T3 : Hid (Tch [] w W3) := T2.out.trans h3.out.1.tchNil
    have hb2 := O2.out.row.lt
    have hb3 := O2.out.state.lt
    have F3 : Hid (Off [b, sb] v3) := h3.out.1.fresh (by simp [hb2, hb3])
    clear hb2 hb3
    go_wp2_with (fail)
    refine (ownWrite b sb (szOf s bl) (blOf s bl) 0 _ l v3 W3 O3.out h3.out.1.1.rd F3.out (by have := HS.out; unfold maxLen; omega)).mono ?_
    rintro e W4 ⟨rfl, o4, t4⟩
    have T4 : Hid (Tch [] w W4) := T3.out.new t4 (by
      intro i hi; right
      simp only [List.mem_cons, List.not_mem_nil, or_false] at hi
      rcases hi with rfl | rfl
      · exact B2.out.1
      · exact B2.out.2)
    have O4 := Lib.hid o4
    clear o4 t4
    go_wp2
    refine H3.out _ _ (wp_seq_k (fun K4 k4 => ?_))
    have H4 := Lib.hid k4
    clear k4
    go_wp2_with (fail)
    refine (ownSum b sb (szOf s bl) (blOf s bl) (0 + l.length) _ [] (.slice none 0 0) W4 O4.out (Own.nil _) (by intro i hi; cases hi) (by have := HS.out; unfold maxLen; omega) (by simp)).mono ?_
    rintro e W5 ⟨v5, rfl, h5⟩
    go_wp2
    refine H4.out _ _ ?_
    go_wp2
    go_ret
    refine ⟨v5, rfl, ?_, T4.out.trans h5.out.2.1, ?_⟩
    · have := h5.out.1
      rw [bad_kind kt k s bl hk]
      simpa [Pu.HK.hash, own, ownState] using this
    rcases h5.out.2.2 with h | ⟨g, h, hg⟩
    · exact .inl h
    · exact .inr ⟨g, h, Nat.le_trans T4.out.size hg⟩
end Go.Proofs.YtgomodhhomekpaaDoor

/-
  hmac.New's closure: the two hashes are not the same.
-/
namespace Go.Proofs.YtgomodhhomekpaaDoor
open Go.RowKit Pu Ar
theorem info_pD : (Tryd.prog.info? 33).map (fun i => i.comparable) = some true := by kernel_rfl
theorem info_sD : (Tryd.prog.info? 51).map (fun i => decide (i.size = 0)) = some false := by kernel_rfl
theorem eqlD {w : World} {b1 b2 : Nat} {x y : List Value} (h1 : Row w b1 51 x) (h2 : Row w b2 51 y) (hne : b1 ≠ b2) :
    (binOp .eql 62 (.iface 33 (.pointer (some ⟨b1, 0, none⟩))) (.iface 33 (.pointer (some ⟨b2, 0, none⟩)))).run Tryd.prog w = .ok (.bool false) w := by
  obtain ⟨i, hi, hc⟩ := Option.map_eq_some_iff.1 info_pD
  obtain ⟨j, hj, hs⟩ := Option.map_eq_some_iff.1 info_sD
  exact run_eql_iface_ptr_other (P := Tryd.prog) w Tryd.underlying62 Tryd.underlying33 hi hc hj (of_decide_eq_false hs) (by intro e; exact hne (congrArg Addr.block e)) h1 h2
theorem recD (w : World) : CallsD Tryd.prog 37 #[] .returning w fun e u' w' => e = .returned (.tuple #[]) ∧ u' = .returning ∧ w' = w := by
  refine callsD_of_wpS Tryd.func37 rfl fun c₀ cs hu => ?_
  apply wpS_region
  simp [wpOpsS, go_sem, recoverD, hu, Tryd.ntmps37, bodyPostS, results, Tryd.results37]
  cases c₀
  simp_all
set_option maxRecDepth 100000 in
theorem closD (w : World) (hv uv m b1 b2 : Nat) (x y : List Value) (c0 : w.cell? ⟨hv, 0, none⟩ = some (.pointer (some ⟨m, 0, none⟩)))
    (c2 : w.cell? ⟨m, 2, none⟩ = some (.iface 33 (.pointer (some ⟨b1, 0, none⟩)))) (c3 : w.cell? ⟨m, 3, none⟩ = some (.iface 33 (.pointer (some ⟨b2, 0, none⟩))))
    (h1 : Row w b1 51 x) (h2 : Row w b2 51 y) (hne : b1 ≠ b2) :
    Calls Tryd.prog 36 #[.pointer (some ⟨hv, 0, none⟩), .pointer (some ⟨uv, 0, none⟩)] w fun e w' => e = .returned (.tuple #[]) ∧ Hid (Tch [] w w') := by
  have he := fun n => eqlD (h1.drewN n) (h2.drewN n) hne
  clear h1 h2 hne
  go_enter_defers Tryd.func36, Tryd.ntmps36
  go_wp2
  go_quiet (fail)
  go_wp2
  refine leaves_cons (f := 37) (args := #[]) (by simp) (by simp [go_sem]) ?_
  refine (recD _).mono ?_
  rintro e u' w'' ⟨rfl, rfl, rfl⟩
  exact ⟨_, results_none (by kernel_rfl) _ _ _, rfl, Tch.drewN _ _⟩
theorem info_pO : (Tryd.prog.info? 40).map (fun i => i.comparable) = some true := by kernel_rfl
theorem info_sO : (Tryd.prog.info? 56).map (fun i => decide (i.size = 0)) = some false := by kernel_rfl
theorem eqlO {w : World} {b1 b2 : Nat} {x y : List Value} (h1 : Row w b1 56 x) (h2 : Row w b2 56 y) (hne : b1 ≠ b2) :
    (binOp .eql 62 (.iface 40 (.pointer (some ⟨b1, 0, none⟩))) (.iface 40 (.pointer (some ⟨b2, 0, none⟩)))).run Tryd.prog w = .ok (.bool false) w := by
  obtain ⟨i, hi, hc⟩ := Option.map_eq_some_iff.1 info_pO
  obtain ⟨j, hj, hs⟩ := Option.map_eq_some_iff.1 info_sO
  exact run_eql_iface_ptr_other (P := Tryd.prog) w Tryd.underlying62 Tryd.underlying40 hi hc hj (of_decide_eq_false hs) (by intro e; exact hne (congrArg Addr.block e)) h1 h2
theorem recO (w : World) : CallsD Tryd.prog 39 #[] .returning w fun e u' w' => e = .returned (.tuple #[]) ∧ u' = .returning ∧ w' = w := by
  refine callsD_of_wpS Tryd.func39 rfl fun c₀ cs hu => ?_
  apply wpS_region
  simp [wpOpsS, go_sem, recoverD, hu, Tryd.ntmps39, bodyPostS, results, Tryd.results39]
  cases c₀
  simp_all
set_option maxRecDepth 100000 in
theorem closO (w : World) (hv uv m b1 b2 : Nat) (x y : List Value) (c0 : w.cell? ⟨hv, 0, none⟩ = some (.pointer (some ⟨m, 0, none⟩)))
    (c2 : w.cell? ⟨m, 2, none⟩ = some (.iface 40 (.pointer (some ⟨b1, 0, none⟩)))) (c3 : w.cell? ⟨m, 3, none⟩ = some (.iface 40 (.pointer (some ⟨b2, 0, none⟩))))
    (h1 : Row w b1 56 x) (h2 : Row w b2 56 y) (hne : b1 ≠ b2) :
    Calls Tryd.prog 38 #[.pointer (some ⟨hv, 0, none⟩), .pointer (some ⟨uv, 0, none⟩)] w fun e w' => e = .returned (.tuple #[]) ∧ Hid (Tch [] w w') := by
  have he := fun n => eqlO (h1.drewN n) (h2.drewN n) hne
  clear h1 h2 hne
  go_enter_defers Tryd.func38, Tryd.ntmps38
  go_wp2
  go_quiet (fail)
  go_wp2
  refine leaves_cons (f := 39) (args := #[]) (by simp) (by simp [go_sem]) ?_
  refine (recO _).mono ?_
  rintro e u' w'' ⟨rfl, rfl, rfl⟩
  exact ⟨_, results_none (by kernel_rfl) _ _ _, rfl, Tch.drewN _ _⟩
end Go.Proofs.YtgomodhhomekpaaDoor

/-
  Either hash behind the interface: what it holds, and its methods.
-/
namespace Go.Proofs.YtgomodhhomekpaaDoor
open Go.RowKit Pu Ar
/-- The hash of make hk at block b has taken the bytes l in. -/
def HIs (w : World) (hk : Pu.HK) (b sb : Nat) (l : By) : Prop :=
  match hk with
  | .sha kt => KIs w kt ∧ DigIs w b kt l ∧ sb = b
  | .own s bl => OwnAt w b sb s bl l.length (ownState s l)
def hT : Pu.HK → TypeId
  | .sha _ => 33
  | .own _ _ => 40
def fW : Pu.HK → Nat
  | .sha _ => 13
  | .own _ _ => 17
def fS : Pu.HK → Nat
  | .sha _ => 15
  | .own _ _ => 18
def fR : Pu.HK → Nat
  | .sha _ => 24
  | .own _ _ => 27
def fB : Pu.HK → Nat
  | .sha _ => 56
  | .own _ _ => 63
def fZ : Pu.HK → Nat
  | .sha _ => 69
  | .own _ _ => 73
theorem mWrite (hk : Pu.HK) (a : Addr) (w : World) : (method 206 (hT hk) (.pointer (some a)) "Write").run Tryd.prog w = .ok (fW hk, .pointer (some a)) w := by cases hk <;> kernel_rfl
theorem cWrite (hk : Pu.HK) (args : Array Value) (w : World) : (callFunc (fW hk) args).run Tryd.prog w = .ok (.enter (fW hk) args) w := by cases hk <;> kernel_rfl
theorem nWrite (hk : Pu.HK) (a : Addr) (w : World) : (nilAhead 206 (hT hk) (.pointer (some a)) "Write").run Tryd.prog w = .ok (some false) w := by cases hk <;> kernel_rfl
theorem mSum (hk : Pu.HK) (a : Addr) (w : World) : (method 206 (hT hk) (.pointer (some a)) "Sum").run Tryd.prog w = .ok (fS hk, .pointer (some a)) w := by cases hk <;> kernel_rfl
theorem cSum (hk : Pu.HK) (args : Array Value) (w : World) : (callFunc (fS hk) args).run Tryd.prog w = .ok (.enter (fS hk) args) w := by cases hk <;> kernel_rfl
theorem nSum (hk : Pu.HK) (a : Addr) (w : World) : (nilAhead 206 (hT hk) (.pointer (some a)) "Sum").run Tryd.prog w = .ok (some false) w := by cases hk <;> kernel_rfl
theorem mReset (hk : Pu.HK) (a : Addr) (w : World) : (method 206 (hT hk) (.pointer (some a)) "Reset").run Tryd.prog w = .ok (fR hk, .pointer (some a)) w := by cases hk <;> kernel_rfl
theorem cReset (hk : Pu.HK) (args : Array Value) (w : World) : (callFunc (fR hk) args).run Tryd.prog w = .ok (.enter (fR hk) args) w := by cases hk <;> kernel_rfl
theorem nReset (hk : Pu.HK) (a : Addr) (w : World) : (nilAhead 206 (hT hk) (.pointer (some a)) "Reset").run Tryd.prog w = .ok (some false) w := by cases hk <;> kernel_rfl
theorem mBlockSize (hk : Pu.HK) (a : Addr) (w : World) : (method 206 (hT hk) (.pointer (some a)) "BlockSize").run Tryd.prog w = .ok (fB hk, .pointer (some a)) w := by cases hk <;> kernel_rfl
theorem cBlockSize (hk : Pu.HK) (args : Array Value) (w : World) : (callFunc (fB hk) args).run Tryd.prog w = .ok (.enter (fB hk) args) w := by cases hk <;> kernel_rfl
theorem nBlockSize (hk : Pu.HK) (a : Addr) (w : World) : (nilAhead 206 (hT hk) (.pointer (some a)) "BlockSize").run Tryd.prog w = .ok (some false) w := by cases hk <;> kernel_rfl
theorem HIs.tch {S : List Nat} {w w' : World} {hk : Pu.HK} {b sb : Nat} {l : By} (h : HIs w hk b sb l) (k : Tch S w w') (hK : 0 ∉ S) (hb : b ∉ S) (hs : sb ∉ S) : HIs w' hk b sb l := by
  cases hk with
  | sha kt => obtain ⟨h1, h2, h3⟩ := h; exact ⟨h1.tch k hK, h2.tch k hb, h3⟩
  | own s bl => exact OwnAt.tch h k hb hs
theorem DigIs.lt {w : World} {b : Nat} {kt : List UInt32} {l : By} (h : DigIs w b kt l) : b < w.heap.size := by
  obtain ⟨_, _, hd, _⟩ := h; exact hd.row.lt
theorem HIs.lt {w : World} {hk : Pu.HK} {b sb : Nat} {l : By} (h : HIs w hk b sb l) : b < w.heap.size ∧ sb < w.heap.size := by
  cases hk with
  | sha kt => obtain ⟨h1, h2, h3⟩ := h; rw [h3]; exact ⟨h2.lt, h2.lt⟩
  | own s bl => exact ⟨OwnAt.row h |>.lt, OwnAt.state h |>.lt⟩
theorem KIs.notDig {w : World} {b : Nat} {kt kt' : List UInt32} {l : By} (hK : KIs w kt) (h : DigIs w b kt' l) : 0 ∉ [b] := by
  obtain ⟨_, _, hd, _⟩ := h
  have := Row.ne hd.row hK.2 (by decide)
  simp only [List.mem_singleton]; omega
/-- Write. -/
theorem hWrite (hk : Pu.HK) (b sb : Nat) (l p : By) (v : Value) (w : World) (h : HIs w hk b sb l) (hv : Rd w v p) (hn : Nm v) (hoff : Off [b, sb] v) (hlen : (l ++ p).length ≤ 1099511627776) :
    Calls Tryd.prog (fW hk) #[.pointer (some ⟨b, 0, none⟩), v] w fun e w' => e = .returned (.tuple #[.int .i64 p.length, .nilIface]) ∧ Hid (HIs w' hk b sb (l ++ p) ∧ Tch [b, sb] w w') := by
  cases hk with
  | sha kt =>
    obtain ⟨h1, h2, rfl⟩ := h
    refine (digWrite kt sb l p v w h1 h2 hv hn (by intro i hi; have := hoff i hi; simpa using this) (by omega)).mono ?_
    rintro e w' ⟨rfl, h3⟩
    exact ⟨rfl, ⟨h1.tch h3.out.2 (h1.notDig h2), h3.out.1, rfl⟩, h3.out.2.mono (by simp)⟩
  | own s bl =>
    refine (ownWrite b sb s bl l.length _ p v w h hv hoff (by rw [List.length_append] at hlen; unfold maxLen; omega)).mono ?_
    rintro e w' ⟨rfl, h3, h4⟩
    refine ⟨rfl, ?_, h4⟩
    show OwnAt w' b sb s bl (l ++ p).length (ownState s (l ++ p))
    rw [List.length_append, ownState_append]; exact h3
/-- Sum. -/
theorem hSum (hk : Pu.HK) (b sb : Nat) (l xs : By) (v : Value) (w : World) (h : HIs w hk b sb l) (hv : Own w v xs) (hoff : Off [b, sb] v) (hlen : l.length ≤ 1099511627776) (hx : xs.length + 32 ≤ 140737488355328) :
    Calls Tryd.prog (fS hk) #[.pointer (some ⟨b, 0, none⟩), v] w fun e w' => ∃ v', e = .returned v' ∧ Hid (Grew w w' v v' (xs ++ hk.hash l)) := by
  cases hk with
  | sha kt =>
    obtain ⟨h1, h2, rfl⟩ := h
    exact digSum kt sb l xs v w h1 h2 (by omega) hv hx
  | own s bl => exact ownSum b sb s bl l.length _ xs v w h hv hoff (by unfold maxLen; omega) hx
/-- Reset. -/
theorem hReset (hk : Pu.HK) (b sb : Nat) (l : By) (w : World) (h : HIs w hk b sb l) :
    Calls Tryd.prog (fR hk) #[.pointer (some ⟨b, 0, none⟩)] w fun e w' => e = .returned (.tuple #[]) ∧ Hid (HIs w' hk b sb [] ∧ Tch [b, sb] w w') := by
  cases hk with
  | sha kt =>
    obtain ⟨h1, h2, rfl⟩ := h
    refine (digReset kt sb l w h2).mono ?_
    rintro e w' ⟨rfl, h3⟩
    exact ⟨rfl, ⟨h1.tch h3.out.2 (h1.notDig h2), h3.out.1, rfl⟩, h3.out.2.mono (by simp)⟩
  | own s bl =>
    refine (ownReset b sb s bl l.length _ w h).mono ?_
    rintro e w' ⟨rfl, h3⟩
    exact ⟨rfl, h3.out⟩
/-- BlockSize. -/
theorem hBlock (hk : Pu.HK) (b sb : Nat) (l : By) (w : World) (h : HIs w hk b sb l) :
    Calls Tryd.prog (fB hk) #[.pointer (some ⟨b, 0, none⟩)] w fun e w' => e = .returned (.int .i64 hk.block) ∧ w = w' := by
  cases hk with
  | sha kt => exact digBlockSize _ w
  | own s bl => exact ownBlockSize b sb s bl l.length _ w h
end Go.Proofs.YtgomodhhomekpaaDoor

/-
  HMAC.Write.
-/
namespace Go.Proofs.YtgomodhhomekpaaDoor
open Go.RowKit Pu Ar
/-- An HMAC, its fields, in block m. -/
def hmCells (hk : Pu.HK) (ov iv : Value) (bo bi : Nat) (mar kdf : Bool) (n : Int) : List Value :=
  [ov, iv, .iface (hT hk) (.pointer (some ⟨bo, 0, none⟩)), .iface (hT hk) (.pointer (some ⟨bi, 0, none⟩)), .bool mar, .bool kdf, .int .i64 n]
set_option maxRecDepth 100000 in
theorem hmWrite (hk : Pu.HK) (m bi si : Nat) (ov iv : Value) (bo : Nat) (mar kdf : Bool) (n : Int) (l p : By) (v : Value) (w : World) (hm : Row w m 64 (hmCells hk ov iv bo bi mar kdf n))
    (hi : HIs w hk bi si l) (hv : Rd w v p) (hn : Nm v) (hoff : Off [bi, si] v) (hlen : (l ++ p).length ≤ 1099511627776) :
    Calls Tryd.prog 22 #[.pointer (some ⟨m, 0, none⟩), v] w fun e w' => e = .returned (.tuple #[.int .i64 p.length, .nilIface]) ∧ Hid (HIs w' hk bi si (l ++ p) ∧ Tch [bi, si] w w') := by
  have c3 : w.cell? ⟨m, 3, none⟩ = some (.iface (hT hk) (.pointer (some ⟨bi, 0, none⟩))) := by rw [hm.cell]; rfl
  have HC := Lib.hid (hWrite hk bi si l p v w hi hv hn hoff hlen)
  clear hm hi hv hn hoff hlen
  have e1 := mWrite hk
  have e2 := cWrite hk
  go_enter Tryd.func22, Tryd.ntmps22
  go_wp2_with (fail)
  refine HC.out.mono ?_
  rintro e w' ⟨rfl, h⟩
  go_wp2
  go_ret2
  exact ⟨rfl, h.out⟩
theorem Own.shape {w : World} {v : Value} {l : By} (h : Own w v l) (h0 : l ≠ []) : ∃ g cap, v = .slice (some ⟨g, 0, none⟩) l.length cap ∧ l.length ≤ cap ∧ cap ≤ maxLen := by
  rcases h.2 with ⟨_, h1⟩ | ⟨g, cap, cur, h1, _, _, h2, h3, _⟩
  · exact absurd (List.length_eq_zero_iff.1 h1) h0
  · exact ⟨g, cap, h1, h2, h3⟩
/-- The front of a row of the call's own is one, too. -/
theorem Own.front {w : World} {g cap : Nat} {xs ys : By} (h : Own w (.slice (some ⟨g, 0, none⟩) (xs ++ ys).length cap) (xs ++ ys)) : Own w (.slice (some ⟨g, 0, none⟩) xs.length cap) xs := by
  refine ⟨by simp, ?_⟩
  rcases h.2 with ⟨h1, _⟩ | ⟨g', cap', cur, h1, hb, hg, h2, h3, h4, h5⟩
  · cases h1
  · simp only [Value.slice.injEq, Option.some.injEq, Addr.mk.injEq] at h1
    obtain ⟨⟨rfl, -, -⟩, -, rfl⟩ := h1
    refine .inr ⟨g, cap, cur, rfl, hb, hg, by rw [List.length_append] at h2; omega, h3, h4, ?_⟩
    have e : xs.length * 1 = min (xs.length * 1) ((xs ++ ys).length * 1) := by rw [List.length_append]; omega
    rw [e, ← List.take_take, h5, List.map_append, Nat.mul_one]
    exact List.take_left' (by simp)
end Go.Proofs.YtgomodhhomekpaaDoor

/-
  An HMAC in memory: its fields, its two hashes, its two blocks of the key.
-/
namespace Go.Proofs.YtgomodhhomekpaaDoor
open Go.RowKit Pu Ar
structure HF where
  m : Nat
  bo : Nat
  so : Nat
  bi : Nat
  si : Nat
  ov : Value
  iv : Value
  mar : Bool
  kdf : Bool
  n : Int
/-- The blocks that an HMAC stands on, the table with them. -/
def HF.all (F : HF) : List Nat := 0 :: F.m :: F.bo :: F.so :: F.bi :: F.si :: (F.ov.ownBlock.toList ++ F.iv.ownBlock.toList)
structure MacAt (w : World) (hk : Pu.HK) (F : HF) (o i l : By) : Prop where
  ok : hk.ok
  row : Row w F.m 64 (hmCells hk F.ov F.iv F.bo F.bi F.mar F.kdf F.n)
  outer : ∃ lo, HIs w hk F.bo F.so lo
  inner : HIs w hk F.bi F.si l
  ord : Rd w F.ov o
  ird : Rd w F.iv i
  onm : Nm F.ov
  inm : Nm F.iv
  olt : ∀ b, F.ov.ownBlock = some b → b < w.heap.size
  ilt : ∀ b, F.iv.ownBlock = some b → b < w.heap.size
  m1 : F.m ≠ F.bo ∧ F.m ≠ F.so ∧ F.m ≠ F.bi ∧ F.m ≠ F.si
  k1 : 0 ≠ F.m ∧ 0 ≠ F.bo ∧ 0 ≠ F.so ∧ 0 ≠ F.bi ∧ 0 ≠ F.si
  oi : F.bi ≠ F.bo ∧ F.bi ≠ F.so ∧ F.si ≠ F.bo ∧ F.si ≠ F.so
  offo : Off [F.m, F.bo, F.so, F.bi, F.si] F.ov
  offi : Off [F.m, F.bo, F.so, F.bi, F.si] F.iv
theorem MacAt.lt {w : World} {hk : Pu.HK} {F : HF} {o i l : By} (h : MacAt w hk F o i l) : ∀ b ∈ F.all, b < w.heap.size := by
  intro b hb
  have hm := h.row.lt
  obtain ⟨_, ho⟩ := h.outer
  have h1 := ho.lt
  have h2 := h.inner.lt
  simp only [HF.all, List.mem_cons, List.mem_append, Option.mem_toList] at hb
  rcases hb with rfl | rfl | rfl | rfl | rfl | rfl | hb | hb
  · omega
  · exact hm
  · exact h1.1
  · exact h1.2
  · exact h2.1
  · exact h2.2
  · exact h.olt b hb
  · exact h.ilt b hb
theorem off_sub {S T : List Nat} {v : Value} (h : Off S v) (hs : ∀ b ∈ T, b ∈ S) : Off T v := fun b hb hm => h b hb (hs b hm)
theorem MacAt.tch {S : List Nat} {w w' : World} {hk : Pu.HK} {F : HF} {o i l : By} (h : MacAt w hk F o i l) (k : Tch S w w') (hS : ∀ b ∈ F.all, b ∉ S) : MacAt w' hk F o i l := by
  obtain ⟨lo, ho⟩ := h.outer
  have e : ∀ b, b ∈ F.all → b ∉ S := hS
  simp only [HF.all, List.mem_cons, List.mem_append, Option.mem_toList] at e
  exact ⟨h.ok, h.row.tch k (e _ (by simp)), ⟨lo, ho.tch k (e _ (by simp)) (e _ (by simp)) (e _ (by simp))⟩, h.inner.tch k (e _ (by simp)) (e _ (by simp)) (e _ (by simp)),
    h.ord.tch k (fun b hb => e b (by simp [hb])), h.ird.tch k (fun b hb => e b (by simp [hb])), h.onm, h.inm, fun b hb => Nat.lt_of_lt_of_le (h.olt b hb) k.size, fun b hb => Nat.lt_of_lt_of_le (h.ilt b hb) k.size,
    h.m1, h.k1, h.oi, h.offo, h.offi⟩
/-- What is new is none of the HMAC's blocks. -/
theorem MacAt.tchNew {S : List Nat} {w w' : World} {hk : Pu.HK} {F : HF} {o i l : By} (h : MacAt w hk F o i l) (k : Tch S w w') (hS : ∀ b ∈ S, w.heap.size ≤ b) : MacAt w' hk F o i l :=
  h.tch k (fun b hb hm => by have := h.lt b hb; have := hS b hm; omega)
/-- The inner hash has turned, and nothing else of it. -/
theorem MacAt.turnIn {w w' : World} {hk : Pu.HK} {F : HF} {o i l l' : By} (h : MacAt w hk F o i l) (k : Tch [F.bi, F.si] w w') (hi : HIs w' hk F.bi F.si l') : MacAt w' hk F o i l' := by
  obtain ⟨lo, ho⟩ := h.outer
  obtain ⟨a1, a2, a3, a4⟩ := h.m1
  obtain ⟨b1, b2, b3, b4, b5⟩ := h.k1
  obtain ⟨c1, c2, c3, c4⟩ := h.oi
  exact ⟨h.ok, h.row.tch k (by simp [a3, a4]), ⟨lo, ho.tch k (by simp only [List.mem_cons, List.not_mem_nil, or_false, not_or]; exact ⟨b4, b5⟩) (by simp [Ne.symm c1, Ne.symm c3]) (by simp [Ne.symm c2, Ne.symm c4])⟩, hi,
    h.ord.tch k (off_sub h.offo (by simp +contextual)), h.ird.tch k (off_sub h.offi (by simp +contextual)), h.onm, h.inm, fun b hb => Nat.lt_of_lt_of_le (h.olt b hb) k.size, fun b hb => Nat.lt_of_lt_of_le (h.ilt b hb) k.size,
    h.m1, h.k1, h.oi, h.offo, h.offi⟩
theorem MacAt.turnOut {w w' : World} {hk : Pu.HK} {F : HF} {o i l lo : By} (h : MacAt w hk F o i l) (k : Tch [F.bo, F.so] w w') (hi : HIs w' hk F.bo F.so lo) : MacAt w' hk F o i l := by
  obtain ⟨a1, a2, a3, a4⟩ := h.m1
  obtain ⟨b1, b2, b3, b4, b5⟩ := h.k1
  obtain ⟨c1, c2, c3, c4⟩ := h.oi
  exact ⟨h.ok, h.row.tch k (by simp [a1, a2]), ⟨lo, hi⟩, h.inner.tch k (by simp only [List.mem_cons, List.not_mem_nil, or_false, not_or]; exact ⟨b2, b3⟩) (by simp [c1, c2]) (by simp [c3, c4]),
    h.ord.tch k (off_sub h.offo (by simp +contextual)), h.ird.tch k (off_sub h.offi (by simp +contextual)), h.onm, h.inm, fun b hb => Nat.lt_of_lt_of_le (h.olt b hb) k.size, fun b hb => Nat.lt_of_lt_of_le (h.ilt b hb) k.size,
    h.m1, h.k1, h.oi, h.offo, h.offi⟩
/-- Write. -/
theorem macWrite (hk : Pu.HK) (F : HF) (o i l p : By) (v : Value) (w : World) (h : MacAt w hk F o i l) (hv : Rd w v p) (hn : Nm v) (hoff : Off [F.bi, F.si] v) (hlen : (l ++ p).length ≤ 1099511627776) :
    Calls Tryd.prog 22 #[.pointer (some ⟨F.m, 0, none⟩), v] w fun e w' => e = .returned (.tuple #[.int .i64 p.length, .nilIface]) ∧ Hid (MacAt w' hk F o i (l ++ p) ∧ Tch [F.bi, F.si] w w') := by
  refine (hmWrite hk F.m F.bi F.si F.ov F.iv F.bo F.mar F.kdf F.n l p v w h.row h.inner hv hn hoff hlen).mono ?_
  rintro e w' ⟨rfl, h3⟩
  exact ⟨rfl, h.turnIn h3.out.2 h3.out.1, h3.out.2⟩
end Go.Proofs.YtgomodhhomekpaaDoor

/-
  HMAC.Sum, where the key's blocks are kept as they are.
-/
namespace Go.Proofs.YtgomodhhomekpaaDoor
open Go.RowKit Pu Ar
/-- What Sum leaves. -/
def HSE (hk : Pu.HK) (F : HF) (v : Value) (o i l res : By) (w : World) (e : Ending) (w' : World) : Prop :=
  ∃ v', e = .returned v' ∧ Hid (Own w' v' res ∧ MacAt w' hk F o i l ∧ Tch (F.bo :: F.so :: v.ownBlock.toList) w w' ∧ Off F.all v' ∧ (v'.ownBlock = v.ownBlock ∨ ∃ g, v'.ownBlock = some g ∧ w.heap.size ≤ g))
theorem off_cons {b : Nat} {S : List Nat} {v : Value} (h : Off S v) (hb : b ∈ S) : b ∉ v.ownBlock.toList := off_list h hb
/-- A slice's tail. -/
theorem Own.tail {w : World} {g cap N nx : Nat} {xs ys : By} (h : Own w (.slice (some ⟨g, 0, none⟩) N cap) (xs ++ ys)) (hx : nx = xs.length) : Rd w (.slice (some ⟨g, nx, none⟩) (N - nx) (cap - nx)) ys := by
  have hr := h.rd
  obtain ⟨p, c, hv, h1, h2, h3⟩ := hr
  simp only [Value.slice.injEq] at hv
  obtain ⟨rfl, rfl, rfl⟩ := hv
  have hr : Rd w (.slice (some ⟨g, 0, none⟩) (xs ++ ys).length cap) (xs ++ ys) := ⟨_, _, rfl, h1, h2, h3⟩
  have := hr.drop nx (by rw [hx, List.length_append]; omega) (some ⟨g, nx, none⟩) (by
    intro _ b o e
    simp only [Option.some.injEq, Addr.mk.injEq] at e
    obtain ⟨rfl, rfl, -⟩ := e
    rw [Nat.zero_add])
  rwa [show (xs ++ ys).drop nx = ys by rw [hx]; exact List.drop_left] at this
theorem Own.len {w : World} {p : Option Addr} {N cap : Nat} {l : By} (h : Own w (.slice p N cap) l) : N = l.length := by
  obtain ⟨p', c, hv, _⟩ := h.rd
  simp only [Value.slice.injEq] at hv
  exact hv.2.1
theorem own_ex {w : World} {v : Value} {l : By} (h : Own w v l) : ∃ p cap, v = .slice p l.length cap := by
  obtain ⟨p', c, hv, _⟩ := h.rd
  exact ⟨p', c, hv⟩
set_option maxHeartbeats 1000000 in
set_option maxRecDepth 100000 in
theorem macSum0 (hk : Pu.HK) (F : HF) (o i l xs : By) (v : Value) (w : World) (h : MacAt w hk F o i l) (hmar : F.mar = false)
    (hv : Own w v xs) (hvf : Off F.all v) (hl : l.length ≤ 1099511627776) (hol : o.length ≤ 549755813888) (hx : xs.length + 64 ≤ 140737488355328) :
    Calls Tryd.prog 23 #[.pointer (some ⟨F.m, 0, none⟩), v] w (HSE hk F v o i l (xs ++ hk.hash (o ++ hk.hash l)) w) := by
  have c3 : w.cell? ⟨F.m, 3, none⟩ = some (.iface (hT hk) (.pointer (some ⟨F.bi, 0, none⟩))) := by rw [h.row.cell]; rfl
  have H1 := Lib.hid (hSum hk F.bi F.si l xs v w h.inner hv (off_sub hvf (by simp +contextual [HF.all])) hl (by omega))
  obtain ⟨vp, vc, hve⟩ := own_ex hv
  have HM := Lib.hid h
  have HMAR := Lib.hid hmar
  have HV := Lib.hid hv
  have HVF := Lib.hid hvf
  have HL := Lib.hid hl
  have HOL := Lib.hid hol
  have HX := Lib.hid hx
  have hs1 := h.ok.size_pos
  have hs2 := h.ok.size_le
  clear h hmar hv hvf hl hol hx
  subst hve
  have a1 := mSum hk
  have a2 := cSum hk
  have b1 := mReset hk
  have b2 := cReset hk
  have d1 := mWrite hk
  have d2 := cWrite hk
  go_enter Tryd.func23, Tryd.ntmps23
  refine wp_seq_k (fun K0 k0 => ?_)
  have J0 := Lib.hid k0
  clear k0
  go_wp2
  refine J0.out _ _ (wp_seq_k (fun K1 k1 => ?_))
  have J1 := Lib.hid k1
  clear k1
  go_wp2_with (fail)
  refine J1.out _ _ (wp_seq_k (fun K2 k2 => ?_))
  have J2 := Lib.hid k2
  clear k2
  go_wp2_with (fail)
  refine H1.out.mono ?_
  rintro e W1 ⟨v1, rfl, h1⟩
  obtain ⟨hw1, t1, f1⟩ := h1.out
  obtain ⟨g, cap, rfl, hc1, hc2⟩ := hw1.shape (by intro e; have := congrArg List.length e; rw [List.length_append, hk.hash_length] at this; simp at this; omega)
  have hsz : (xs ++ hk.hash l).length = xs.length + hk.size := by rw [List.length_append, hk.hash_length]
  have F1 : Off F.all (.slice (some ⟨g, 0, none⟩) (xs ++ hk.hash l).length cap) := Grew.offs h1.out HVF.out HM.out.lt
  have M1 : Hid (MacAt W1 hk F o i l) := HM.out.tch t1 (fun b hb => off_list HVF.out hb)
  rw [hsz] at hw1 hc1 F1 ⊢
  obtain ⟨nx, hnx⟩ : ∃ nx, nx = xs.length := ⟨_, rfl⟩
  rw [← hnx] at hw1 hc1 F1 ⊢
  obtain ⟨N, hN⟩ : ∃ N, N = nx + hk.size := ⟨_, rfl⟩
  rw [← hN] at hw1 hc1 F1 ⊢
  have O1 := Lib.hid hw1
  have OF1 := Lib.hid F1
  have T1 := Lib.hid t1
  have FR1 := Lib.hid f1
  have HNX := Lib.hid hnx
  have HNN := Lib.hid hN
  have n1 : (nx : Int) ≤ N := by omega
  have n2 : (N : Int) ≤ cap := by exact_mod_cast hc1
  have n3 : (cap : Int) ≤ 9223372036854775807 := by unfold maxLen at hc2; omega
  have n4 : 0 ≤ (nx : Int) := by omega
  have n5 : ¬ cap = nx := by omega
  have c4 : W1.cell? ⟨F.m, 4, none⟩ = some (.bool false) := by rw [M1.out.row.cell, ← HMAR.out]; rfl
  have c2 : W1.cell? ⟨F.m, 2, none⟩ = some (.iface (hT hk) (.pointer (some ⟨F.bo, 0, none⟩))) := by rw [M1.out.row.cell]; rfl
  clear h1 hw1 F1 t1 f1 hsz hc1 hc2 hnx hN hs1 hs2 c3
  go_wp2
  refine J2.out _ _ (wp_seq_k (fun K3 k3 => ?_))
  have J3 := Lib.hid k3
  clear k3 H1
  go_wp2_with (fail)
  obtain ⟨lo, ho1⟩ := M1.out.outer
  refine (hReset hk F.bo F.so lo W1 ho1).mono ?_
  rintro e W2 ⟨rfl, h2⟩
  have M2 : Hid (MacAt W2 hk F o i l) := M1.out.turnOut h2.out.2 h2.out.1
  have ho2 := Lib.hid h2.out.1
  have T2 := Lib.hid h2.out.2
  have O2 : Hid (Own W2 (.slice (some ⟨g, 0, none⟩) N cap) (xs ++ hk.hash l)) := O1.out.tch h2.out.2 (off_sub OF1.out (by simp +contextual [HF.all]))
  clear h2 c4 c2 ho1
  have c2 : W2.cell? ⟨F.m, 2, none⟩ = some (.iface (hT hk) (.pointer (some ⟨F.bo, 0, none⟩))) := by rw [M2.out.row.cell]; rfl
  have c0 : W2.cell? ⟨F.m, 0, none⟩ = some F.ov := by rw [M2.out.row.cell]; rfl
  go_wp2
  refine wp_region_quiet_tail 10 (by kernel_rfl) (by kernel_rfl) ?_
  simp only [List.take_succ_cons, List.take_zero, List.drop_succ_cons, List.drop_zero]
  repeat (go_big_quiet_step (fail))
  refine wpQuiet_nil ?_
  go_wp2_with (fail)
  have M2d : Hid (MacAt W2.drew hk F o i l) := M2.out.tch (Tch.drewN (S := []) W2 1) (by simp)
  have ho2d : HIs W2.drew hk F.bo F.so [] := ho2.out.tch (Tch.drewN (S := []) W2 1) (by simp) (by simp) (by simp)
  refine (hWrite hk F.bo F.so [] o F.ov W2.drew ho2d M2d.out.ord M2d.out.onm (off_sub M2d.out.offo (by simp +contextual)) (by have := HOL.out; simp; omega)).mono ?_
  rintro e W3 ⟨rfl, h3⟩
  have M3 : Hid (MacAt W3 hk F o i l) := M2d.out.turnOut h3.out.2 h3.out.1
  have ho3 : Hid (HIs W3 hk F.bo F.so o) := h3.out.1
  have T3 : Hid (Tch [F.bo, F.so] W1 W3) := T2.out.trans ((Tch.drewN W2 1).trans h3.out.2)
  have O3 : Hid (Own W3 (.slice (some ⟨g, 0, none⟩) N cap) (xs ++ hk.hash l)) := O1.out.tch T3.out (off_sub OF1.out (by simp +contextual [HF.all]))
  clear h3 c2 c0 ho2d M2d M2 ho2 T2 O2
  have c2 : W3.cell? ⟨F.m, 2, none⟩ = some (.iface (hT hk) (.pointer (some ⟨F.bo, 0, none⟩))) := by rw [M3.out.row.cell]; rfl
  go_wp2
  refine J3.out _ _ (wp_seq_k (fun K4 k4 => ?_))
  have J4 := Lib.hid k4
  clear k4
  refine wp_region_quiet_tail 9 (by kernel_rfl) (by kernel_rfl) ?_
  simp only [List.take_succ_cons, List.take_zero, List.drop_succ_cons, List.drop_zero]
  repeat (go_big_quiet_step (fail))
  refine wpQuiet_nil ?_
  go_wp2_with (fail)
  have M3d : Hid (MacAt W3.drew hk F o i l) := M3.out.tch (Tch.drewN (S := []) W3 1) (by simp)
  have ho3d : HIs W3.drew hk F.bo F.so o := ho3.out.tch (Tch.drewN (S := []) W3 1) (by simp) (by simp) (by simp)
  have O3d : Own W3.drew (.slice (some ⟨g, 0, none⟩) N cap) (xs ++ hk.hash l) := O3.out.tch (Tch.drewN (S := []) W3 1) (by intro i _; simp)
  refine (hWrite hk F.bo F.so o (hk.hash l) _ W3.drew ho3d (O3d.tail HNX.out) (.inr ⟨_, _, _, _, rfl⟩) (by intro i hi; exact OF1.out i hi |> fun h hm => h (by simp only [HF.all, List.mem_cons, List.not_mem_nil, or_false] at hm ⊢; omega)) (by have := HOL.out; rw [List.length_append, hk.hash_length]; have := M3d.out.ok.size_le; omega)).mono ?_
  rintro e W4 ⟨rfl, h4⟩
  have M4 : Hid (MacAt W4 hk F o i l) := M3d.out.turnOut h4.out.2 h4.out.1
  have ho4 : Hid (HIs W4 hk F.bo F.so (o ++ hk.hash l)) := h4.out.1
  have T4 : Hid (Tch [F.bo, F.so] W1 W4) := T3.out.trans ((Tch.drewN W3 1).trans h4.out.2)
  have O4 : Hid (Own W4 (.slice (some ⟨g, 0, none⟩) N cap) (xs ++ hk.hash l)) := O1.out.tch T4.out (off_sub OF1.out (by simp +contextual [HF.all]))
  clear h4 c2 ho3d M3d M3 ho3 T3 O3 O3d
  have c2 : W4.cell? ⟨F.m, 2, none⟩ = some (.iface (hT hk) (.pointer (some ⟨F.bo, 0, none⟩))) := by rw [M4.out.row.cell]; rfl
  have n6 : (nx : Int) ≤ cap := by omega
  go_wp2
  refine J4.out _ _ (wp_seq_k (fun K5 k5 => ?_))
  have J5 := Lib.hid k5
  clear k5
  refine wp_region_quiet_tail 9 (by kernel_rfl) (by kernel_rfl) ?_
  simp only [List.take_succ_cons, List.take_zero, List.drop_succ_cons, List.drop_zero]
  repeat (go_big_quiet_step (fail))
  refine wpQuiet_nil ?_
  go_wp2_with (fail)
  have M4d : Hid (MacAt W4.drew hk F o i l) := M4.out.tch (Tch.drewN (S := []) W4 1) (by simp)
  have ho4d : HIs W4.drew hk F.bo F.so (o ++ hk.hash l) := ho4.out.tch (Tch.drewN (S := []) W4 1) (by simp) (by simp) (by simp)
  have O4d : Own W4.drew (.slice (some ⟨g, 0, none⟩) N cap) (xs ++ hk.hash l) := O4.out.tch (Tch.drewN (S := []) W4 1) (by intro i _; simp)
  have O4e : Own W4.drew (.slice (some ⟨g, 0, none⟩) nx cap) xs := by
    have := O4d.len
    subst this
    rw [HNX.out]; exact O4d.front
  refine (hSum hk F.bo F.so (o ++ hk.hash l) xs _ W4.drew ho4d O4e (by intro i hi hm; exact OF1.out i hi (by simp only [HF.all, List.mem_cons, List.not_mem_nil, or_false] at hm ⊢; omega)) (by have := HOL.out; rw [List.length_append, hk.hash_length]; have := M4d.out.ok.size_le; omega) (by have := HX.out; omega)).mono ?_
  rintro e W5 ⟨v5, rfl, h5⟩
  go_wp2
  refine J5.out _ _ ?_
  go_wp2
  go_ret
  obtain ⟨p1, p2, p3⟩ := h5.out
  have OFg : Off F.all (.slice (some ⟨g, 0, none⟩) nx cap) := fun i hi => OF1.out i hi
  refine ⟨v5, rfl, p1, M4d.out.tch p2 (fun b hb => off_list OFg hb), ?_, Grew.offs h5.out OFg M4d.out.lt, ?_⟩
  · have t : Tch (F.bo :: F.so :: (Value.slice vp xs.length vc).ownBlock.toList) w W4.drew := (T1.out.mono (by simp +contextual)).trans ((T4.out.trans (Tch.drewN W4 1)).mono (by simp +contextual))
    refine t.new p2 ?_
    intro b hb
    have hb' : b = g := by simpa [Value.ownBlock] using hb
    subst hb'
    rcases FR1.out with h | ⟨g2, h, hg⟩
    · left
      rw [← h]; simp [Value.ownBlock]
    · right
      have : b = g2 := by simpa [Value.ownBlock] using h
      rw [this]; exact hg
  · have ws : w.heap.size ≤ W4.drew.heap.size := Nat.le_trans T1.out.size T4.out.size
    rcases p3 with h | ⟨g2, h, hg⟩
    · rcases FR1.out with h' | ⟨g2, h', hg⟩
      · exact .inl (h.trans h')
      · exact .inr ⟨g2, h.trans h', hg⟩
    · exact .inr ⟨g2, h, Nat.le_trans ws hg⟩
end Go.Proofs.YtgomodhhomekpaaDoor

/-
  hmac.New's loops: each byte of a key's block is turned.
-/
namespace Go.Proofs.YtgomodhhomekpaaDoor
open Go.RowKit Pu Ar
theorem xor_c36 (x : UInt8) : bits .xor .u8 (ib x) 54 = ib (x ^^^ 0x36) := by rw [show (54 : Int) = ib 0x36 by decide, Ar.bits_xor8]
theorem xor_c5c (x : UInt8) : bits .xor .u8 (ib x) 92 = ib (x ^^^ 0x5c) := by rw [show (92 : Int) = ib 0x5c by decide, Ar.bits_xor8]
theorem take_set_xor (st bs : By) (i : Nat) (c : UInt8) (hi : i < bs.length) (h : st = (bs.take i).map (· ^^^ c) ++ bs.drop i) :
    st.set i (bs.getD i 0 ^^^ c) = (bs.take (i + 1)).map (· ^^^ c) ++ bs.drop (i + 1) := by
  subst h
  rw [List.set_append_right _ _ (by simp; omega)]
  have e : i - ((bs.take i).map (· ^^^ c)).length = 0 := by simp; omega
  rw [e, List.drop_eq_getElem_cons hi, List.set_cons_zero, List.take_succ_eq_append_getElem hi, List.map_append, List.append_assoc, List.getD_eq_getElem?_getD, List.getElem?_eq_getElem hi]
  rfl
def nlDIP (a : Act) (w : World) (ib' i : Nat) (st : By) (a' : Act) (w' : World) : Prop :=
  Frm 121 a' ∧ Same [0, 1, 5, 77] a a' ∧ G a' 78 = .int .i64 ((i : Int) + 1) ∧ Row w' ib' 5 ((st.set i (st.getD i 0 ^^^ 0x36)).map vb) ∧ Tch [ib'] w w'
set_option maxRecDepth 100000 in
theorem nlDIRound (a : Act) (w : World) (h : Frm 121 a) (Q : Exit → Act → World → Prop) (hv m ib' i bl : Nat) (st : By)
    (hi : i < bl) (hst : st.length = bl) (hbl : (bl : Int) ≤ 64) (c0 : w.cell? ⟨hv, 0, none⟩ = some (.pointer (some ⟨m, 0, none⟩))) (c1 : w.cell? ⟨m, 1, none⟩ = some (.slice (some ⟨ib', 0, none⟩) bl bl)) (hr : Row w ib' 5 (st.map vb))
    (g5 : G a 5 = .pointer (some ⟨hv, 0, none⟩)) (gl : G a 77 = .int .i64 bl) (gi : G a 78 = .int .i64 i)
    (hQ : ∀ a' w', nlDIP a w ib' i st a' w' → Q .normal a' w') :
    (part (bodyOf Tryd.f29) [true, true, true, true, true, true, true, true, true, true, true, true, true, false, true, false, false]).wp Tryd.prog Q a w := by
  have hii : (i : Int) < bl := by exact_mod_cast hi
  have s1 : w.cell? ⟨ib', i, none⟩ = some (.int .u8 (ib (st.getD i 0))) := by
    rw [hr.cell]; simp [List.getD_eq_getElem?_getD, List.getElem?_eq_getElem (show i < st.length by omega), vb]
  have f1 := hr.free i
  have e4 := xor_c36
  generalize hy : st.getD i 0 = y at s1
  conv => arg 2; whnf
  rw [lit121 a h]
  simp only [g5, gl, gi]
  have G5 := Lib.hid g5
  have GL := Lib.hid gl
  have HR := Lib.hid hr
  have HY := Lib.hid hy
  clear h g5 gl gi hr hst hy
  go_wp2
  have E5 := G5.out
  have EL := GL.out
  refine ⟨⟨rfl, rfl⟩, ⟨rfl, rfl, E5.symm, EL.symm, trivial⟩, rfl, ?_, Tch.setCell _ _ _ (by simp)⟩
  rw [List.map_set, HY.out]; exact HR.out.set _ _
def nlDIX (a : Act) (w : World) (a' : Act) (w' : World) : Prop := Frm 121 a' ∧ Same [0, 1, 5] a a' ∧ w' = w
set_option maxRecDepth 100000 in
theorem nlDILeave (a : Act) (w : World) (h : Frm 121 a) (Q : Exit → Act → World → Prop) (bl : Nat) (gl : G a 77 = .int .i64 bl) (gi : G a 78 = .int .i64 bl)
    (hQ : ∀ a' w', nlDIX a w a' w' → Q (.exit 0) a' w') :
    (part (bodyOf Tryd.f29) [true, true, true, true, true, true, true, true, true, true, true, true, true, false, true, false, false]).wp Tryd.prog Q a w := by
  conv => arg 2; whnf
  rw [lit121 a h]
  simp only [gl, gi]
  clear h gl gi
  go_wp2
  exact ⟨⟨rfl, rfl⟩, ⟨rfl, rfl, rfl, trivial⟩, rfl⟩
theorem nlDILoop_eq : part (bodyOf Tryd.f29) [true, true, true, true, true, true, true, true, true, true, true, true, true, false, true, false] = .loop (part (bodyOf Tryd.f29) [true, true, true, true, true, true, true, true, true, true, true, true, true, false, true, false, false]) := by kernel_rfl
structure nlDII (a0 : Act) (w0 : World) (ib' bl : Nat) (bs : By) (i : Nat) (a : Act) (w : World) : Prop where
  frm : Frm 121 a
  same : Same [0, 1, 5, 77] a0 a
  le : i ≤ bl
  gi : G a 78 = .int .i64 (i : Int)
  row : Row w ib' 5 (((bs.take i).map (· ^^^ 0x36) ++ bs.drop i).map vb)
  tch : Tch [ib'] w0 w
def nlDIE (a : Act) (w : World) (ib' : Nat) (bs : By) (a' : Act) (w' : World) : Prop :=
  Frm 121 a' ∧ Same [0, 1, 5] a a' ∧ Row w' ib' 5 ((bs.map (· ^^^ 0x36)).map vb) ∧ Tch [ib'] w w'
theorem nlDILoop (a : Act) (w : World) (h : Frm 121 a) (Q : Exit → Act → World → Prop) (hv m ib' bl : Nat) (bs : By) (hst : bs.length = bl) (hbl : bl ≤ 64)
    (c0 : w.cell? ⟨hv, 0, none⟩ = some (.pointer (some ⟨m, 0, none⟩))) (c1 : w.cell? ⟨m, 1, none⟩ = some (.slice (some ⟨ib', 0, none⟩) bl bl)) (hr : Row w ib' 5 (bs.map vb)) (h1 : hv ≠ ib') (h2 : m ≠ ib')
    (g5 : G a 5 = .pointer (some ⟨hv, 0, none⟩)) (gl : G a 77 = .int .i64 bl) (gi : G a 78 = .int .i64 0)
    (hQ : ∀ a' w', nlDIE a w ib' bs a' w' → Q (.exit 0) a' w') :
    (part (bodyOf Tryd.f29) [true, true, true, true, true, true, true, true, true, true, true, true, true, false, true, false]).wp Tryd.prog Q a w := by
  rw [nlDILoop_eq]
  refine wp_loop (fun a' w' => ∃ i, nlDII a w ib' bl bs i a' w') (fun a' _ => bl - (intOf (G a' 78)).toNat) ⟨0, h, by simp [Same], by omega, gi, by simpa using hr, Tch.refl _ _⟩ ?_
  rintro a1 w1 ⟨i, I⟩
  by_cases hi : i < bl
  · have ec : ((bs.take i).map (· ^^^ 0x36) ++ bs.drop i).getD i 0 = bs.getD i 0 := by
      rw [List.getD_eq_getElem?_getD, List.getElem?_append_right (by simp; omega), List.getElem?_drop, List.getD_eq_getElem?_getD]
      congr 2
      simp only [List.length_map, List.length_take]; omega
    refine nlDIRound a1 w1 I.frm _ hv m ib' i bl _ hi (by simp; omega) (by omega) (I.tch.cell c0 (by simpa using h1)) (I.tch.cell c1 (by simpa using h2)) I.row ((I.same.get 5 rfl).trans g5) ((I.same.get 77 rfl).trans gl) I.gi ?_
    rintro a' w' ⟨p1, p2, p3, p4, p5⟩
    simp only [Exit.then]
    refine ⟨⟨i + 1, p1, ?_, by omega, p3, ?_, I.tch.trans p5⟩, ?_⟩
    · have s := I.same
      simp only [Same] at s p2 ⊢
      simp only [p2, s, and_self]
    · rw [ec, take_set_xor _ bs i _ (by omega) rfl] at p4; exact p4
    · rw [p3, I.gi]; simp [intOf]; omega
  · have hi' : i = bl := by have := I.le; omega
    subst hi'
    refine nlDILeave a1 w1 I.frm _ i ((I.same.get 77 rfl).trans gl) I.gi ?_
    rintro a' w' ⟨p1, p2, rfl⟩
    simp only [Exit.then]
    have s := I.same
    have r := I.row
    rw [List.take_of_length_le (by omega), List.drop_of_length_le (by omega), List.append_nil] at r
    refine hQ _ _ ⟨p1, ?_, r, I.tch⟩
    simp only [Same] at s p2 ⊢
    simp only [p2, s, and_self]
def nlDOP (a : Act) (w : World) (ib' i : Nat) (st : By) (a' : Act) (w' : World) : Prop :=
  Frm 121 a' ∧ Same [0, 1, 5, 95] a a' ∧ G a' 96 = .int .i64 ((i : Int) + 1) ∧ Row w' ib' 5 ((st.set i (st.getD i 0 ^^^ 0x5c)).map vb) ∧ Tch [ib'] w w'
set_option maxRecDepth 100000 in
theorem nlDORound (a : Act) (w : World) (h : Frm 121 a) (Q : Exit → Act → World → Prop) (hv m ib' i bl : Nat) (st : By)
    (hi : i < bl) (hst : st.length = bl) (hbl : (bl : Int) ≤ 64) (c0 : w.cell? ⟨hv, 0, none⟩ = some (.pointer (some ⟨m, 0, none⟩))) (c1 : w.cell? ⟨m, 0, none⟩ = some (.slice (some ⟨ib', 0, none⟩) bl bl)) (hr : Row w ib' 5 (st.map vb))
    (g5 : G a 5 = .pointer (some ⟨hv, 0, none⟩)) (gl : G a 95 = .int .i64 bl) (gi : G a 96 = .int .i64 i)
    (hQ : ∀ a' w', nlDOP a w ib' i st a' w' → Q .normal a' w') :
    (part (bodyOf Tryd.f29) [true, true, true, true, true, true, true, true, true, true, true, true, true, true, false, true, false, false]).wp Tryd.prog Q a w := by
  have hii : (i : Int) < bl := by exact_mod_cast hi
  have s1 : w.cell? ⟨ib', i, none⟩ = some (.int .u8 (ib (st.getD i 0))) := by
    rw [hr.cell]; simp [List.getD_eq_getElem?_getD, List.getElem?_eq_getElem (show i < st.length by omega), vb]
  have f1 := hr.free i
  have e4 := xor_c5c
  generalize hy : st.getD i 0 = y at s1
  conv => arg 2; whnf
  rw [lit121 a h]
  simp only [g5, gl, gi]
  have G5 := Lib.hid g5
  have GL := Lib.hid gl
  have HR := Lib.hid hr
  have HY := Lib.hid hy
  clear h g5 gl gi hr hst hy
  go_wp2
  have E5 := G5.out
  have EL := GL.out
  refine ⟨⟨rfl, rfl⟩, ⟨rfl, rfl, E5.symm, EL.symm, trivial⟩, rfl, ?_, Tch.setCell _ _ _ (by simp)⟩
  rw [List.map_set, HY.out]; exact HR.out.set _ _
def nlDOX (a : Act) (w : World) (a' : Act) (w' : World) : Prop := Frm 121 a' ∧ Same [0, 1, 5] a a' ∧ w' = w
set_option maxRecDepth 100000 in
theorem nlDOLeave (a : Act) (w : World) (h : Frm 121 a) (Q : Exit → Act → World → Prop) (bl : Nat) (gl : G a 95 = .int .i64 bl) (gi : G a 96 = .int .i64 bl)
    (hQ : ∀ a' w', nlDOX a w a' w' → Q (.exit 2) a' w') :
    (part (bodyOf Tryd.f29) [true, true, true, true, true, true, true, true, true, true, true, true, true, true, false, true, false, false]).wp Tryd.prog Q a w := by
  conv => arg 2; whnf
  rw [lit121 a h]
  simp only [gl, gi]
  clear h gl gi
  go_wp2
  exact ⟨⟨rfl, rfl⟩, ⟨rfl, rfl, rfl, trivial⟩, rfl⟩
theorem nlDOLoop_eq : part (bodyOf Tryd.f29) [true, true, true, true, true, true, true, true, true, true, true, true, true, true, false, true, false] = .loop (part (bodyOf Tryd.f29) [true, true, true, true, true, true, true, true, true, true, true, true, true, true, false, true, false, false]) := by kernel_rfl
structure nlDOI (a0 : Act) (w0 : World) (ib' bl : Nat) (bs : By) (i : Nat) (a : Act) (w : World) : Prop where
  frm : Frm 121 a
  same : Same [0, 1, 5, 95] a0 a
  le : i ≤ bl
  gi : G a 96 = .int .i64 (i : Int)
  row : Row w ib' 5 (((bs.take i).map (· ^^^ 0x5c) ++ bs.drop i).map vb)
  tch : Tch [ib'] w0 w
def nlDOE (a : Act) (w : World) (ib' : Nat) (bs : By) (a' : Act) (w' : World) : Prop :=
  Frm 121 a' ∧ Same [0, 1, 5] a a' ∧ Row w' ib' 5 ((bs.map (· ^^^ 0x5c)).map vb) ∧ Tch [ib'] w w'
theorem nlDOLoop (a : Act) (w : World) (h : Frm 121 a) (Q : Exit → Act → World → Prop) (hv m ib' bl : Nat) (bs : By) (hst : bs.length = bl) (hbl : bl ≤ 64)
    (c0 : w.cell? ⟨hv, 0, none⟩ = some (.pointer (some ⟨m, 0, none⟩))) (c1 : w.cell? ⟨m, 0, none⟩ = some (.slice (some ⟨ib', 0, none⟩) bl bl)) (hr : Row w ib' 5 (bs.map vb)) (h1 : hv ≠ ib') (h2 : m ≠ ib')
    (g5 : G a 5 = .pointer (some ⟨hv, 0, none⟩)) (gl : G a 95 = .int .i64 bl) (gi : G a 96 = .int .i64 0)
    (hQ : ∀ a' w', nlDOE a w ib' bs a' w' → Q (.exit 2) a' w') :
    (part (bodyOf Tryd.f29) [true, true, true, true, true, true, true, true, true, true, true, true, true, true, false, true, false]).wp Tryd.prog Q a w := by
  rw [nlDOLoop_eq]
  refine wp_loop (fun a' w' => ∃ i, nlDOI a w ib' bl bs i a' w') (fun a' _ => bl - (intOf (G a' 96)).toNat) ⟨0, h, by simp [Same], by omega, gi, by simpa using hr, Tch.refl _ _⟩ ?_
  rintro a1 w1 ⟨i, I⟩
  by_cases hi : i < bl
  · have ec : ((bs.take i).map (· ^^^ 0x5c) ++ bs.drop i).getD i 0 = bs.getD i 0 := by
      rw [List.getD_eq_getElem?_getD, List.getElem?_append_right (by simp; omega), List.getElem?_drop, List.getD_eq_getElem?_getD]
      congr 2
      simp only [List.length_map, List.length_take]; omega
    refine nlDORound a1 w1 I.frm _ hv m ib' i bl _ hi (by simp; omega) (by omega) (I.tch.cell c0 (by simpa using h1)) (I.tch.cell c1 (by simpa using h2)) I.row ((I.same.get 5 rfl).trans g5) ((I.same.get 95 rfl).trans gl) I.gi ?_
    rintro a' w' ⟨p1, p2, p3, p4, p5⟩
    simp only [Exit.then]
    refine ⟨⟨i + 1, p1, ?_, by omega, p3, ?_, I.tch.trans p5⟩, ?_⟩
    · have s := I.same
      simp only [Same] at s p2 ⊢
      simp only [p2, s, and_self]
    · rw [ec, take_set_xor _ bs i _ (by omega) rfl] at p4; exact p4
    · rw [p3, I.gi]; simp [intOf]; omega
  · have hi' : i = bl := by have := I.le; omega
    subst hi'
    refine nlDOLeave a1 w1 I.frm _ i ((I.same.get 95 rfl).trans gl) I.gi ?_
    rintro a' w' ⟨p1, p2, rfl⟩
    simp only [Exit.then]
    have s := I.same
    have r := I.row
    rw [List.take_of_length_le (by omega), List.drop_of_length_le (by omega), List.append_nil] at r
    refine hQ _ _ ⟨p1, ?_, r, I.tch⟩
    simp only [Same] at s p2 ⊢
    simp only [p2, s, and_self]
def nlOIP (a : Act) (w : World) (ib' i : Nat) (st : By) (a' : Act) (w' : World) : Prop :=
  Frm 121 a' ∧ Same [0, 1, 5, 77] a a' ∧ G a' 78 = .int .i64 ((i : Int) + 1) ∧ Row w' ib' 5 ((st.set i (st.getD i 0 ^^^ 0x36)).map vb) ∧ Tch [ib'] w w'
set_option maxRecDepth 100000 in
theorem nlOIRound (a : Act) (w : World) (h : Frm 121 a) (Q : Exit → Act → World → Prop) (hv m ib' i bl : Nat) (st : By)
    (hi : i < bl) (hst : st.length = bl) (hbl : (bl : Int) ≤ 64) (c0 : w.cell? ⟨hv, 0, none⟩ = some (.pointer (some ⟨m, 0, none⟩))) (c1 : w.cell? ⟨m, 1, none⟩ = some (.slice (some ⟨ib', 0, none⟩) bl bl)) (hr : Row w ib' 5 (st.map vb))
    (g5 : G a 5 = .pointer (some ⟨hv, 0, none⟩)) (gl : G a 77 = .int .i64 bl) (gi : G a 78 = .int .i64 i)
    (hQ : ∀ a' w', nlOIP a w ib' i st a' w' → Q .normal a' w') :
    (part (bodyOf Tryd.f30) [true, true, true, true, true, true, true, true, true, true, true, true, true, false, true, false, false]).wp Tryd.prog Q a w := by
  have hii : (i : Int) < bl := by exact_mod_cast hi
  have s1 : w.cell? ⟨ib', i, none⟩ = some (.int .u8 (ib (st.getD i 0))) := by
    rw [hr.cell]; simp [List.getD_eq_getElem?_getD, List.getElem?_eq_getElem (show i < st.length by omega), vb]
  have f1 := hr.free i
  have e4 := xor_c36
  generalize hy : st.getD i 0 = y at s1
  conv => arg 2; whnf
  rw [lit121 a h]
  simp only [g5, gl, gi]
  have G5 := Lib.hid g5
  have GL := Lib.hid gl
  have HR := Lib.hid hr
  have HY := Lib.hid hy
  clear h g5 gl gi hr hst hy
  go_wp2
  have E5 := G5.out
  have EL := GL.out
  refine ⟨⟨rfl, rfl⟩, ⟨rfl, rfl, E5.symm, EL.symm, trivial⟩, rfl, ?_, Tch.setCell _ _ _ (by simp)⟩
  rw [List.map_set, HY.out]; exact HR.out.set _ _
def nlOIX (a : Act) (w : World) (a' : Act) (w' : World) : Prop := Frm 121 a' ∧ Same [0, 1, 5] a a' ∧ w' = w
set_option maxRecDepth 100000 in
theorem nlOILeave (a : Act) (w : World) (h : Frm 121 a) (Q : Exit → Act → World → Prop) (bl : Nat) (gl : G a 77 = .int .i64 bl) (gi : G a 78 = .int .i64 bl)
    (hQ : ∀ a' w', nlOIX a w a' w' → Q (.exit 0) a' w') :
    (part (bodyOf Tryd.f30) [true, true, true, true, true, true, true, true, true, true, true, true, true, false, true, false, false]).wp Tryd.prog Q a w := by
  conv => arg 2; whnf
  rw [lit121 a h]
  simp only [gl, gi]
  clear h gl gi
  go_wp2
  exact ⟨⟨rfl, rfl⟩, ⟨rfl, rfl, rfl, trivial⟩, rfl⟩
theorem nlOILoop_eq : part (bodyOf Tryd.f30) [true, true, true, true, true, true, true, true, true, true, true, true, true, false, true, false] = .loop (part (bodyOf Tryd.f30) [true, true, true, true, true, true, true, true, true, true, true, true, true, false, true, false, false]) := by kernel_rfl
structure nlOII (a0 : Act) (w0 : World) (ib' bl : Nat) (bs : By) (i : Nat) (a : Act) (w : World) : Prop where
  frm : Frm 121 a
  same : Same [0, 1, 5, 77] a0 a
  le : i ≤ bl
  gi : G a 78 = .int .i64 (i : Int)
  row : Row w ib' 5 (((bs.take i).map (· ^^^ 0x36) ++ bs.drop i).map vb)
  tch : Tch [ib'] w0 w
def nlOIE (a : Act) (w : World) (ib' : Nat) (bs : By) (a' : Act) (w' : World) : Prop :=
  Frm 121 a' ∧ Same [0, 1, 5] a a' ∧ Row w' ib' 5 ((bs.map (· ^^^ 0x36)).map vb) ∧ Tch [ib'] w w'
theorem nlOILoop (a : Act) (w : World) (h : Frm 121 a) (Q : Exit → Act → World → Prop) (hv m ib' bl : Nat) (bs : By) (hst : bs.length = bl) (hbl : bl ≤ 64)
    (c0 : w.cell? ⟨hv, 0, none⟩ = some (.pointer (some ⟨m, 0, none⟩))) (c1 : w.cell? ⟨m, 1, none⟩ = some (.slice (some ⟨ib', 0, none⟩) bl bl)) (hr : Row w ib' 5 (bs.map vb)) (h1 : hv ≠ ib') (h2 : m ≠ ib')
    (g5 : G a 5 = .pointer (some ⟨hv, 0, none⟩)) (gl : G a 77 = .int .i64 bl) (gi : G a 78 = .int .i64 0)
    (hQ : ∀ a' w', nlOIE a w ib' bs a' w' → Q (.exit 0) a' w') :
    (part (bodyOf Tryd.f30) [true, true, true, true, true, true, true, true, true, true, true, true, true, false, true, false]).wp Tryd.prog Q a w := by
  rw [nlOILoop_eq]
  refine wp_loop (fun a' w' => ∃ i, nlOII a w ib' bl bs i a' w') (fun a' _ => bl - (intOf (G a' 78)).toNat) ⟨0, h, by simp [Same], by omega, gi, by simpa using hr, Tch.refl _ _⟩ ?_
  rintro a1 w1 ⟨i, I⟩
  by_cases hi : i < bl
  · have ec : ((bs.take i).map (· ^^^ 0x36) ++ bs.drop i).getD i 0 = bs.getD i 0 := by
      rw [List.getD_eq_getElem?_getD, List.getElem?_append_right (by simp; omega), List.getElem?_drop, List.getD_eq_getElem?_getD]
      congr 2
      simp only [List.length_map, List.length_take]; omega
    refine nlOIRound a1 w1 I.frm _ hv m ib' i bl _ hi (by simp; omega) (by omega) (I.tch.cell c0 (by simpa using h1)) (I.tch.cell c1 (by simpa using h2)) I.row ((I.same.get 5 rfl).trans g5) ((I.same.get 77 rfl).trans gl) I.gi ?_
    rintro a' w' ⟨p1, p2, p3, p4, p5⟩
    simp only [Exit.then]
    refine ⟨⟨i + 1, p1, ?_, by omega, p3, ?_, I.tch.trans p5⟩, ?_⟩
    · have s := I.same
      simp only [Same] at s p2 ⊢
      simp only [p2, s, and_self]
    · rw [ec, take_set_xor _ bs i _ (by omega) rfl] at p4; exact p4
    · rw [p3, I.gi]; simp [intOf]; omega
  · have hi' : i = bl := by have := I.le; omega
    subst hi'
    refine nlOILeave a1 w1 I.frm _ i ((I.same.get 77 rfl).trans gl) I.gi ?_
    rintro a' w' ⟨p1, p2, rfl⟩
    simp only [Exit.then]
    have s := I.same
    have r := I.row
    rw [List.take_of_length_le (by omega), List.drop_of_length_le (by omega), List.append_nil] at r
    refine hQ _ _ ⟨p1, ?_, r, I.tch⟩
    simp only [Same] at s p2 ⊢
    simp only [p2, s, and_self]
def nlOOP (a : Act) (w : World) (ib' i : Nat) (st : By) (a' : Act) (w' : World) : Prop :=
  Frm 121 a' ∧ Same [0, 1, 5, 95] a a' ∧ G a' 96 = .int .i64 ((i : Int) + 1) ∧ Row w' ib' 5 ((st.set i (st.getD i 0 ^^^ 0x5c)).map vb) ∧ Tch [ib'] w w'
set_option maxRecDepth 100000 in
theorem nlOORound (a : Act) (w : World) (h : Frm 121 a) (Q : Exit → Act → World → Prop) (hv m ib' i bl : Nat) (st : By)
    (hi : i < bl) (hst : st.length = bl) (hbl : (bl : Int) ≤ 64) (c0 : w.cell? ⟨hv, 0, none⟩ = some (.pointer (some ⟨m, 0, none⟩))) (c1 : w.cell? ⟨m, 0, none⟩ = some (.slice (some ⟨ib', 0, none⟩) bl bl)) (hr : Row w ib' 5 (st.map vb))
    (g5 : G a 5 = .pointer (some ⟨hv, 0, none⟩)) (gl : G a 95 = .int .i64 bl) (gi : G a 96 = .int .i64 i)
    (hQ : ∀ a' w', nlOOP a w ib' i st a' w' → Q .normal a' w') :
    (part (bodyOf Tryd.f30) [true, true, true, true, true, true, true, true, true, true, true, true, true, true, false, true, false, false]).wp Tryd.prog Q a w := by
  have hii : (i : Int) < bl := by exact_mod_cast hi
  have s1 : w.cell? ⟨ib', i, none⟩ = some (.int .u8 (ib (st.getD i 0))) := by
    rw [hr.cell]; simp [List.getD_eq_getElem?_getD, List.getElem?_eq_getElem (show i < st.length by omega), vb]
  have f1 := hr.free i
  have e4 := xor_c5c
  generalize hy : st.getD i 0 = y at s1
  conv => arg 2; whnf
  rw [lit121 a h]
  simp only [g5, gl, gi]
  have G5 := Lib.hid g5
  have GL := Lib.hid gl
  have HR := Lib.hid hr
  have HY := Lib.hid hy
  clear h g5 gl gi hr hst hy
  go_wp2
  have E5 := G5.out
  have EL := GL.out
  refine ⟨⟨rfl, rfl⟩, ⟨rfl, rfl, E5.symm, EL.symm, trivial⟩, rfl, ?_, Tch.setCell _ _ _ (by simp)⟩
  rw [List.map_set, HY.out]; exact HR.out.set _ _
def nlOOX (a : Act) (w : World) (a' : Act) (w' : World) : Prop := Frm 121 a' ∧ Same [0, 1, 5] a a' ∧ w' = w
set_option maxRecDepth 100000 in
theorem nlOOLeave (a : Act) (w : World) (h : Frm 121 a) (Q : Exit → Act → World → Prop) (bl : Nat) (gl : G a 95 = .int .i64 bl) (gi : G a 96 = .int .i64 bl)
    (hQ : ∀ a' w', nlOOX a w a' w' → Q (.exit 2) a' w') :
    (part (bodyOf Tryd.f30) [true, true, true, true, true, true, true, true, true, true, true, true, true, true, false, true, false, false]).wp Tryd.prog Q a w := by
  conv => arg 2; whnf
  rw [lit121 a h]
  simp only [gl, gi]
  clear h gl gi
  go_wp2
  exact ⟨⟨rfl, rfl⟩, ⟨rfl, rfl, rfl, trivial⟩, rfl⟩
theorem nlOOLoop_eq : part (bodyOf Tryd.f30) [true, true, true, true, true, true, true, true, true, true, true, true, true, true, false, true, false] = .loop (part (bodyOf Tryd.f30) [true, true, true, true, true, true, true, true, true, true, true, true, true, true, false, true, false, false]) := by kernel_rfl
structure nlOOI (a0 : Act) (w0 : World) (ib' bl : Nat) (bs : By) (i : Nat) (a : Act) (w : World) : Prop where
  frm : Frm 121 a
  same : Same [0, 1, 5, 95] a0 a
  le : i ≤ bl
  gi : G a 96 = .int .i64 (i : Int)
  row : Row w ib' 5 (((bs.take i).map (· ^^^ 0x5c) ++ bs.drop i).map vb)
  tch : Tch [ib'] w0 w
def nlOOE (a : Act) (w : World) (ib' : Nat) (bs : By) (a' : Act) (w' : World) : Prop :=
  Frm 121 a' ∧ Same [0, 1, 5] a a' ∧ Row w' ib' 5 ((bs.map (· ^^^ 0x5c)).map vb) ∧ Tch [ib'] w w'
theorem nlOOLoop (a : Act) (w : World) (h : Frm 121 a) (Q : Exit → Act → World → Prop) (hv m ib' bl : Nat) (bs : By) (hst : bs.length = bl) (hbl : bl ≤ 64)
    (c0 : w.cell? ⟨hv, 0, none⟩ = some (.pointer (some ⟨m, 0, none⟩))) (c1 : w.cell? ⟨m, 0, none⟩ = some (.slice (some ⟨ib', 0, none⟩) bl bl)) (hr : Row w ib' 5 (bs.map vb)) (h1 : hv ≠ ib') (h2 : m ≠ ib')
    (g5 : G a 5 = .pointer (some ⟨hv, 0, none⟩)) (gl : G a 95 = .int .i64 bl) (gi : G a 96 = .int .i64 0)
    (hQ : ∀ a' w', nlOOE a w ib' bs a' w' → Q (.exit 2) a' w') :
    (part (bodyOf Tryd.f30) [true, true, true, true, true, true, true, true, true, true, true, true, true, true, false, true, false]).wp Tryd.prog Q a w := by
  rw [nlOOLoop_eq]
  refine wp_loop (fun a' w' => ∃ i, nlOOI a w ib' bl bs i a' w') (fun a' _ => bl - (intOf (G a' 96)).toNat) ⟨0, h, by simp [Same], by omega, gi, by simpa using hr, Tch.refl _ _⟩ ?_
  rintro a1 w1 ⟨i, I⟩
  by_cases hi : i < bl
  · have ec : ((bs.take i).map (· ^^^ 0x5c) ++ bs.drop i).getD i 0 = bs.getD i 0 := by
      rw [List.getD_eq_getElem?_getD, List.getElem?_append_right (by simp; omega), List.getElem?_drop, List.getD_eq_getElem?_getD]
      congr 2
      simp only [List.length_map, List.length_take]; omega
    refine nlOORound a1 w1 I.frm _ hv m ib' i bl _ hi (by simp; omega) (by omega) (I.tch.cell c0 (by simpa using h1)) (I.tch.cell c1 (by simpa using h2)) I.row ((I.same.get 5 rfl).trans g5) ((I.same.get 95 rfl).trans gl) I.gi ?_
    rintro a' w' ⟨p1, p2, p3, p4, p5⟩
    simp only [Exit.then]
    refine ⟨⟨i + 1, p1, ?_, by omega, p3, ?_, I.tch.trans p5⟩, ?_⟩
    · have s := I.same
      simp only [Same] at s p2 ⊢
      simp only [p2, s, and_self]
    · rw [ec, take_set_xor _ bs i _ (by omega) rfl] at p4; exact p4
    · rw [p3, I.gi]; simp [intOf]; omega
  · have hi' : i = bl := by have := I.le; omega
    subst hi'
    refine nlOOLeave a1 w1 I.frm _ i ((I.same.get 95 rfl).trans gl) I.gi ?_
    rintro a' w' ⟨p1, p2, rfl⟩
    simp only [Exit.then]
    have s := I.same
    have r := I.row
    rw [List.take_of_length_le (by omega), List.drop_of_length_le (by omega), List.append_nil] at r
    refine hQ _ _ ⟨p1, ?_, r, I.tch⟩
    simp only [Same] at s p2 ⊢
    simp only [p2, s, and_self]
end Go.Proofs.YtgomodhhomekpaaDoor

/-
  hmac.New: the key's blocks, the inner hash's first bytes.
-/
namespace Go.Proofs.YtgomodhhomekpaaDoor
open Go.RowKit Pu Ar
theorem rd_row {w : World} {b n : Nat} {t : TypeId} {l : By} (h : Row w b t (l.map vb)) (hn : n = l.length) (hm : l.length ≤ maxLen) : Rd w (.slice (some ⟨b, 0, none⟩) n n) l := by
  subst hn
  refine ⟨_, _, rfl, Nat.le_refl _, hm, .inr ⟨b, 0, rfl, fun i y hy => ?_⟩⟩
  rw [h.cell, Nat.zero_add, List.getElem?_map, hy]; rfl
/-- hmac.New under way: the blocks in the order in which they have been made. -/
structure NewSt (w0 w : World) (hk : Pu.HK) (hv m bo so bi si ob ip : Nat) (obs ibs lin : By) (n : Int) : Prop where
  ok : hk.ok
  hvr : Row w hv 44 [.pointer (some ⟨m, 0, none⟩)]
  mr : Row w m 64 (hmCells hk (.slice (some ⟨ob, 0, none⟩) hk.block hk.block) (.slice (some ⟨ip, 0, none⟩) hk.block hk.block) bo bi false false n)
  orow : Row w ob 5 (obs.map vb)
  irow : Row w ip 5 (ibs.map vb)
  ol : obs.length = hk.block
  il : ibs.length = hk.block
  outer : ∃ lo, HIs w hk bo so lo
  inner : HIs w hk bi si lin
  tch : Tch [] w0 w
  k0 : 0 < m
  o0 : w0.heap.size ≤ m
  o1 : m < hv
  o2 : hv < bo ∧ hv < so
  o3 : bo < bi ∧ bo < si ∧ so < bi ∧ so < si
  o4 : bi < ip ∧ si < ip
  o5 : ip < ob
theorem NewSt.tch1 {w0 w w' : World} {hk : Pu.HK} {hv m bo so bi si ob ip : Nat} {obs ibs lin : By} {n : Int} {S : List Nat} (h : NewSt w0 w hk hv m bo so bi si ob ip obs ibs lin n) (k : Tch S w w') (hS : ∀ b ∈ S, ob < b) :
    NewSt w0 w' hk hv m bo so bi si ob ip obs ibs lin n := by
  have e : ∀ b, b ≤ ob → b ∉ S := fun b hb hm => by have := hS b hm; omega
  obtain ⟨lo, ho⟩ := h.outer
  have h0 := h.k0; have h1 := h.o1; have h2 := h.o2; have h3 := h.o3; have h4 := h.o4; have h5 := h.o5; have h6 := h.o0
  refine ⟨h.ok, h.hvr.tch k (e _ (by omega)), h.mr.tch k (e _ (by omega)), h.orow.tch k (e _ (by omega)), h.irow.tch k (e _ (by omega)), h.ol, h.il, ⟨lo, ho.tch k (e _ (by omega)) (e _ (by omega)) (e _ (by omega))⟩,
    h.inner.tch k (e _ (by omega)) (e _ (by omega)) (e _ (by omega)), h.tch.new k ?_, h.k0, h.o0, h.o1, h.o2, h.o3, h.o4, h.o5⟩
  intro i hi; right; have := hS i hi; omega
theorem NewSt.out {w0 w w' : World} {hk : Pu.HK} {hv m bo so bi si ob ip : Nat} {obs ibs lin lo : By} {n : Int} (h : NewSt w0 w hk hv m bo so bi si ob ip obs ibs lin n) (k : Tch [bo, so] w w') (ho : HIs w' hk bo so lo) :
    NewSt w0 w' hk hv m bo so bi si ob ip obs ibs lin n := by
  have e : ∀ b, b ≠ bo → b ≠ so → b ∉ [bo, so] := fun b h1 h2 => by simp [h1, h2]
  have h0 := h.k0; have h1 := h.o1; have h2 := h.o2; have h3 := h.o3; have h4 := h.o4; have h5 := h.o5; have h6 := h.o0
  refine ⟨h.ok, h.hvr.tch k (e _ (by omega) (by omega)), h.mr.tch k (e _ (by omega) (by omega)), h.orow.tch k (e _ (by omega) (by omega)), h.irow.tch k (e _ (by omega) (by omega)), h.ol, h.il, ⟨lo, ho⟩,
    h.inner.tch k (e _ (by omega) (by omega)) (e _ (by omega) (by omega)) (e _ (by omega) (by omega)), h.tch.new k ?_, h.k0, h.o0, h.o1, h.o2, h.o3, h.o4, h.o5⟩
  intro i hi; right; simp only [List.mem_cons, List.not_mem_nil, or_false] at hi; omega
theorem NewSt.inn {w0 w w' : World} {hk : Pu.HK} {hv m bo so bi si ob ip : Nat} {obs ibs lin li : By} {n : Int} (h : NewSt w0 w hk hv m bo so bi si ob ip obs ibs lin n) (k : Tch [bi, si] w w') (hi : HIs w' hk bi si li) :
    NewSt w0 w' hk hv m bo so bi si ob ip obs ibs li n := by
  have e : ∀ b, b ≠ bi → b ≠ si → b ∉ [bi, si] := fun b h1 h2 => by simp [h1, h2]
  obtain ⟨lo, ho⟩ := h.outer
  have h0 := h.k0; have h1 := h.o1; have h2 := h.o2; have h3 := h.o3; have h4 := h.o4; have h5 := h.o5; have h6 := h.o0
  refine ⟨h.ok, h.hvr.tch k (e _ (by omega) (by omega)), h.mr.tch k (e _ (by omega) (by omega)), h.orow.tch k (e _ (by omega) (by omega)), h.irow.tch k (e _ (by omega) (by omega)), h.ol, h.il,
    ⟨lo, ho.tch k (e _ (by omega) (by omega)) (e _ (by omega) (by omega)) (e _ (by omega) (by omega))⟩, hi, h.tch.new k ?_, h.k0, h.o0, h.o1, h.o2, h.o3, h.o4, h.o5⟩
  intro i hi; right; simp only [List.mem_cons, List.not_mem_nil, or_false] at hi; omega
theorem NewSt.irows {w0 w w' : World} {hk : Pu.HK} {hv m bo so bi si ob ip : Nat} {obs ibs lin xs : By} {n : Int} (h : NewSt w0 w hk hv m bo so bi si ob ip obs ibs lin n) (k : Tch [ip] w w') (hi : Row w' ip 5 (xs.map vb)) (hx : xs.length = hk.block) :
    NewSt w0 w' hk hv m bo so bi si ob ip obs xs lin n := by
  have e : ∀ b, b ≠ ip → b ∉ [ip] := fun b h1 => by simp [h1]
  obtain ⟨lo, ho⟩ := h.outer
  have h0 := h.k0; have h1 := h.o1; have h2 := h.o2; have h3 := h.o3; have h4 := h.o4; have h5 := h.o5; have h6 := h.o0
  refine ⟨h.ok, h.hvr.tch k (e _ (by omega)), h.mr.tch k (e _ (by omega)), h.orow.tch k (e _ (by omega)), hi, h.ol, hx,
    ⟨lo, ho.tch k (e _ (by omega)) (e _ (by omega)) (e _ (by omega))⟩, h.inner.tch k (e _ (by omega)) (e _ (by omega)) (e _ (by omega)), h.tch.new k ?_, h.k0, h.o0, h.o1, h.o2, h.o3, h.o4, h.o5⟩
  intro i hi; right; simp only [List.mem_cons, List.not_mem_nil, or_false] at hi; omega
theorem NewSt.orows {w0 w w' : World} {hk : Pu.HK} {hv m bo so bi si ob ip : Nat} {obs ibs lin xs : By} {n : Int} (h : NewSt w0 w hk hv m bo so bi si ob ip obs ibs lin n) (k : Tch [ob] w w') (hi : Row w' ob 5 (xs.map vb)) (hx : xs.length = hk.block) :
    NewSt w0 w' hk hv m bo so bi si ob ip xs ibs lin n := by
  have e : ∀ b, b ≠ ob → b ∉ [ob] := fun b h1 => by simp [h1]
  obtain ⟨lo, ho⟩ := h.outer
  have h0 := h.k0; have h1 := h.o1; have h2 := h.o2; have h3 := h.o3; have h4 := h.o4; have h5 := h.o5; have h6 := h.o0
  refine ⟨h.ok, h.hvr.tch k (e _ (by omega)), h.mr.tch k (e _ (by omega)), hi, h.irow.tch k (e _ (by omega)), hx, h.il,
    ⟨lo, ho.tch k (e _ (by omega)) (e _ (by omega)) (e _ (by omega))⟩, h.inner.tch k (e _ (by omega)) (e _ (by omega)) (e _ (by omega)), h.tch.new k ?_, h.k0, h.o0, h.o1, h.o2, h.o3, h.o4, h.o5⟩
  intro i hi; right; simp only [List.mem_cons, List.not_mem_nil, or_false] at hi; omega
/-- What hmac.New hands back. -/
def HNE (w0 : World) (hk : Pu.HK) (key : By) (e : Ending) (w : World) : Prop :=
  ∃ F : HF, e = .returned (.pointer (some ⟨F.m, 0, none⟩)) ∧ Hid (MacAt w hk F (opad hk key) (ipad hk key) (ipad hk key) ∧ F.mar = false ∧ Tch [] w0 w ∧ (∀ b ∈ F.all, b = 0 ∨ w0.heap.size ≤ b))
theorem NewSt.mac {w0 w : World} {hk : Pu.HK} {hv m bo so bi si ob ip : Nat} {key : By} {n : Int} (h : NewSt w0 w hk hv m bo so bi si ob ip (opad hk key) (ipad hk key) (ipad hk key) n) : HNE w0 hk key (.returned (.pointer (some ⟨m, 0, none⟩))) w := by
  have h0 := h.k0; have h1 := h.o1; have h2 := h.o2; have h3 := h.o3; have h4 := h.o4; have h5 := h.o5; have h6 := h.o0
  have b64 := h.ok.block_le
  have hlo := h.orow.lt
  have hli := h.irow.lt
  have e1 := h.ol
  have e2 := h.il
  refine ⟨⟨m, bo, so, bi, si, .slice (some ⟨ob, 0, none⟩) hk.block hk.block, .slice (some ⟨ip, 0, none⟩) hk.block hk.block, false, false, n⟩, rfl, ⟨h.ok, h.mr, h.outer, h.inner, rd_row h.orow e1.symm (by unfold maxLen; omega), rd_row h.irow e2.symm (by unfold maxLen; omega),
    .inr ⟨_, _, _, _, rfl⟩, .inr ⟨_, _, _, _, rfl⟩, ?_, ?_, ?_, ?_, ?_, ?_, ?_⟩, rfl, h.tch, ?_⟩
  · intro b hb; simp only [Value.ownBlock, Option.some.injEq] at hb; omega
  · intro b hb; simp only [Value.ownBlock, Option.some.injEq] at hb; omega
  · refine ⟨?_, ?_, ?_, ?_⟩ <;> simp only [ne_eq] <;> omega
  · refine ⟨?_, ?_, ?_, ?_, ?_⟩ <;> simp only [ne_eq] <;> omega
  · refine ⟨?_, ?_, ?_, ?_⟩ <;> simp only [ne_eq] <;> omega
  · intro b hb; simp only [Value.ownBlock, Option.some.injEq] at hb; subst hb
    simp only [List.mem_cons, List.not_mem_nil, or_false]; omega
  · intro b hb; simp only [Value.ownBlock, Option.some.injEq] at hb; subst hb
    simp only [List.mem_cons, List.not_mem_nil, or_false]; omega
  · intro b hb
    simp only [HF.all, Value.ownBlock, Option.toList, List.cons_append, List.nil_append, List.mem_cons, List.not_mem_nil, or_false] at hb
    omega
theorem pad_cells (hk : Pu.HK) (key : By) : (Pu.keyOf hk key).map vb ++ List.replicate (hk.block - (Pu.keyOf hk key).length) (Value.int .u8 0) = (padKey hk key).map vb := by
  simp only [padKey, List.map_append, List.map_replicate]
  rfl
set_option maxHeartbeats 1000000 in
set_option maxRecDepth 100000 in
theorem hnTailD (a : Act) (w0 w : World) (h : Frm 121 a) (hk : Pu.HK) (hv m bo so bi si ob ip : Nat) (key : By) (vk : Value) (n : Int)
    (st : NewSt w0 w hk hv m bo so bi si ob ip (List.replicate hk.block 0) (List.replicate hk.block 0) [] n) (hr : Rd w vk (Pu.keyOf hk key)) (hoff : Off [ip, ob] vk)
    (g1 : G a 1 = vk) (g5 : G a 5 = .pointer (some ⟨hv, 0, none⟩)) :
    (part (bodyOf Tryd.f29) [true, true, true, true, true, true, true, true, true, true, true]).wp Tryd.prog (bodyPost Tryd.prog Tryd.f29 (HNE w0 hk key)) a w := by
  have b64 := st.ok.block_le
  have kl := keyOf_length st.ok key
  have c0 : w.cell? ⟨hv, 0, none⟩ = some (.pointer (some ⟨m, 0, none⟩)) := by rw [st.hvr.cell]; rfl
  have c1 : w.cell? ⟨m, 1, none⟩ = some (.slice (some ⟨ip, 0, none⟩) hk.block hk.block) := by rw [st.mr.cell]; rfl
  have e1 := mWrite hk
  have e2 := cWrite hk
  conv => arg 2; whnf
  rw [lit121 a h]
  simp only [g1, g5]
  have ST := Lib.hid st
  have HR := Lib.hid hr
  have HF := Lib.hid hoff
  have B64 := Lib.hid b64
  have KL := Lib.hid kl
  have I0 : Hid (Row w ip 5 (List.replicate hk.block (Value.int .u8 0))) := by have := st.irow; rwa [List.map_replicate] at this
  clear h g1 g5 st hr hoff b64 kl
  refine wp_seq_k (fun K1 k1 => ?_)
  have J1 := Lib.hid k1
  clear k1
  go_wp2_with (refine wpList_copy_by rfl _ _ rfl ip 0 hk.block hk.block vk (Pu.keyOf hk key) 5 (List.replicate hk.block (Value.int .u8 0)) (Pu.keyOf hk key).length (Nat.min_eq_left KL.out).symm rfl rfl HR.out I0.out (by simp) ?_)
  intro w1 h1
  have R1 := h1.out.1
  rw [pad_cells hk key] at R1
  have S1 : Hid (NewSt w0 w1 hk hv m bo so bi si ob ip (List.replicate hk.block 0) (padKey hk key) [] n) := ST.out.irows h1.out.2 R1 (padKey_length ST.out.ok key)
  have HR1 : Hid (Rd w1 vk (Pu.keyOf hk key)) := HR.out.tch h1.out.2 (off_sub HF.out (by simp))
  clear R1 h1 c0 c1 ST HR
  have c0 : w1.cell? ⟨hv, 0, none⟩ = some (.pointer (some ⟨m, 0, none⟩)) := by rw [S1.out.hvr.cell]; rfl
  have c1 : w1.cell? ⟨m, 0, none⟩ = some (.slice (some ⟨ob, 0, none⟩) hk.block hk.block) := by rw [S1.out.mr.cell]; rfl
  have O0 : Hid (Row w1 ob 5 (List.replicate hk.block (Value.int .u8 0))) := by have := S1.out.orow; rwa [List.map_replicate] at this
  go_wp2
  refine J1.out _ _ (wp_seq_k (fun K2 k2 => ?_))
  have J2 := Lib.hid k2
  clear k2
  go_wp2_with (refine wpList_copy_by rfl _ _ rfl ob 0 hk.block hk.block vk (Pu.keyOf hk key) 5 (List.replicate hk.block (Value.int .u8 0)) (Pu.keyOf hk key).length (Nat.min_eq_left KL.out).symm rfl rfl HR1.out O0.out (by simp) ?_)
  intro w2 h2
  have R2 := h2.out.1
  rw [pad_cells hk key] at R2
  have S2 : Hid (NewSt w0 w2 hk hv m bo so bi si ob ip (padKey hk key) (padKey hk key) [] n) := S1.out.orows h2.out.2 R2 (padKey_length S1.out.ok key)
  clear R2 h2 c0 c1 S1 HR1 HF I0 O0
  go_wp2
  have c0 : w2.cell? ⟨hv, 0, none⟩ = some (.pointer (some ⟨m, 0, none⟩)) := by rw [S2.out.hvr.cell]; rfl
  have c1 : w2.cell? ⟨m, 1, none⟩ = some (.slice (some ⟨ip, 0, none⟩) hk.block hk.block) := by rw [S2.out.mr.cell]; rfl
  refine J2.out _ _ (wp_seq_k (fun K3 k3 => ?_))
  have J3 := Lib.hid k3
  clear k3
  go_wp2
  have d1 : hv ≠ ip := by have := S2.out.o2; have := S2.out.o3; have := S2.out.o4; omega
  have d2 : m ≠ ip := by have := S2.out.o1; have := S2.out.o2; have := S2.out.o3; have := S2.out.o4; omega
  refine nlDILoop _ w2 ⟨rfl, rfl⟩ _ hv m ip hk.block (padKey hk key) (padKey_length S2.out.ok key) B64.out c0 c1 S2.out.irow d1 d2 rfl rfl rfl ?_
  rintro a3 w3 ⟨f3, s3, r3, t3⟩
  have S3 : Hid (NewSt w0 w3 hk hv m bo so bi si ob ip (padKey hk key) (ipad hk key) [] n) := S2.out.irows t3 r3 (ipad_length S2.out.ok key)
  have g1 : G a3 1 = vk := s3.get 1 rfl
  have g5 : G a3 5 = .pointer (some ⟨hv, 0, none⟩) := s3.get 5 rfl
  rw [lit121 a3 f3]
  simp only [g1, g5]
  clear f3 s3 r3 t3 c0 c1 S2 g1 g5 d1 d2
  go_wp2
  have c0 : w3.cell? ⟨hv, 0, none⟩ = some (.pointer (some ⟨m, 0, none⟩)) := by rw [S3.out.hvr.cell]; rfl
  have c1 : w3.cell? ⟨m, 0, none⟩ = some (.slice (some ⟨ob, 0, none⟩) hk.block hk.block) := by rw [S3.out.mr.cell]; rfl
  refine J3.out _ _ (wp_seq_k (fun K4 k4 => ?_))
  have J4 := Lib.hid k4
  clear k4
  go_wp2
  have d1 : hv ≠ ob := by have := S3.out.o2; have := S3.out.o3; have := S3.out.o4; have := S3.out.o5; omega
  have d2 : m ≠ ob := by have := S3.out.o1; have := S3.out.o2; have := S3.out.o3; have := S3.out.o4; have := S3.out.o5; omega
  refine nlDOLoop _ w3 ⟨rfl, rfl⟩ _ hv m ob hk.block (padKey hk key) (padKey_length S3.out.ok key) B64.out c0 c1 S3.out.orow d1 d2 rfl rfl rfl ?_
  rintro a4 w4 ⟨f4, s4, r4, t4⟩
  have S4 : Hid (NewSt w0 w4 hk hv m bo so bi si ob ip (opad hk key) (ipad hk key) [] n) := S3.out.orows t4 r4 (opad_length S3.out.ok key)
  have g5 : G a4 5 = .pointer (some ⟨hv, 0, none⟩) := s4.get 5 rfl
  rw [lit121 a4 f4]
  simp only [g5]
  clear f4 s4 r4 t4 c0 c1 S3 g5 d1 d2
  go_wp2
  have c0 : w4.cell? ⟨hv, 0, none⟩ = some (.pointer (some ⟨m, 0, none⟩)) := by rw [S4.out.hvr.cell]; rfl
  have c1 : w4.cell? ⟨m, 1, none⟩ = some (.slice (some ⟨ip, 0, none⟩) hk.block hk.block) := by rw [S4.out.mr.cell]; rfl
  have c3 : w4.cell? ⟨m, 3, none⟩ = some (.iface (hT hk) (.pointer (some ⟨bi, 0, none⟩))) := by rw [S4.out.mr.cell]; rfl
  refine J4.out _ _ (wp_seq_k (fun K5 k5 => ?_))
  have J5 := Lib.hid k5
  clear k5
  refine wp_region_quiet_tail 10 (by kernel_rfl) (by kernel_rfl) ?_
  simp only [List.take_succ_cons, List.take_zero, List.drop_succ_cons, List.drop_zero]
  repeat (go_big_quiet_step (fail))
  refine wpQuiet_nil ?_
  go_wp2_with (fail)
  have S5 : Hid (NewSt w0 w4.drew hk hv m bo so bi si ob ip (opad hk key) (ipad hk key) [] n) := S4.out.tch1 (Tch.drewN (S := []) w4 1) (by simp)
  have rd5 : Rd w4.drew (.slice (some ⟨ip, 0, none⟩) hk.block hk.block) (ipad hk key) := rd_row S5.out.irow (ipad_length S5.out.ok key).symm (by rw [ipad_length S5.out.ok key]; have := B64.out; unfold maxLen; omega)
  have of5 : Off [bi, si] (.slice (some ⟨ip, 0, none⟩) hk.block hk.block) := by
    intro b hb; simp only [Value.ownBlock, Option.some.injEq] at hb; subst hb
    have := S5.out.o4; simp only [List.mem_cons, List.not_mem_nil, or_false]; omega
  refine (hWrite hk bi si [] (ipad hk key) _ w4.drew S5.out.inner rd5 (.inr ⟨_, _, _, _, rfl⟩) of5 (by rw [List.nil_append, ipad_length S5.out.ok key]; have := B64.out; omega)).mono ?_
  rintro e w6 ⟨rfl, h6⟩
  have S6 : Hid (NewSt w0 w6 hk hv m bo so bi si ob ip (opad hk key) (ipad hk key) (ipad hk key) n) := S5.out.inn h6.out.2 h6.out.1
  clear h6 S5 S4 rd5 of5 c0 c1 c3
  have c0 : w6.cell? ⟨hv, 0, none⟩ = some (.pointer (some ⟨m, 0, none⟩)) := by rw [S6.out.hvr.cell]; rfl
  go_wp2
  refine J5.out _ _ ?_
  go_wp2
  go_ret
  exact S6.out.mac
set_option maxHeartbeats 1000000 in
set_option maxRecDepth 100000 in
theorem hnTailO (a : Act) (w0 w : World) (h : Frm 121 a) (hk : Pu.HK) (hv m bo so bi si ob ip : Nat) (key : By) (vk : Value) (n : Int)
    (st : NewSt w0 w hk hv m bo so bi si ob ip (List.replicate hk.block 0) (List.replicate hk.block 0) [] n) (hr : Rd w vk (Pu.keyOf hk key)) (hoff : Off [ip, ob] vk)
    (g1 : G a 1 = vk) (g5 : G a 5 = .pointer (some ⟨hv, 0, none⟩)) :
    (part (bodyOf Tryd.f30) [true, true, true, true, true, true, true, true, true, true, true]).wp Tryd.prog (bodyPost Tryd.prog Tryd.f30 (HNE w0 hk key)) a w := by
  have b64 := st.ok.block_le
  have kl := keyOf_length st.ok key
  have c0 : w.cell? ⟨hv, 0, none⟩ = some (.pointer (some ⟨m, 0, none⟩)) := by rw [st.hvr.cell]; rfl
  have c1 : w.cell? ⟨m, 1, none⟩ = some (.slice (some ⟨ip, 0, none⟩) hk.block hk.block) := by rw [st.mr.cell]; rfl
  have e1 := mWrite hk
  have e2 := cWrite hk
  conv => arg 2; whnf
  rw [lit121 a h]
  simp only [g1, g5]
  have ST := Lib.hid st
  have HR := Lib.hid hr
  have HF := Lib.hid hoff
  have B64 := Lib.hid b64
  have KL := Lib.hid kl
  have I0 : Hid (Row w ip 5 (List.replicate hk.block (Value.int .u8 0))) := by have := st.irow; rwa [List.map_replicate] at this
  clear h g1 g5 st hr hoff b64 kl
  refine wp_seq_k (fun K1 k1 => ?_)
  have J1 := Lib.hid k1
  clear k1
  go_wp2_with (refine wpList_copy_by rfl _ _ rfl ip 0 hk.block hk.block vk (Pu.keyOf hk key) 5 (List.replicate hk.block (Value.int .u8 0)) (Pu.keyOf hk key).length (Nat.min_eq_left KL.out).symm rfl rfl HR.out I0.out (by simp) ?_)
  intro w1 h1
  have R1 := h1.out.1
  rw [pad_cells hk key] at R1
  have S1 : Hid (NewSt w0 w1 hk hv m bo so bi si ob ip (List.replicate hk.block 0) (padKey hk key) [] n) := ST.out.irows h1.out.2 R1 (padKey_length ST.out.ok key)
  have HR1 : Hid (Rd w1 vk (Pu.keyOf hk key)) := HR.out.tch h1.out.2 (off_sub HF.out (by simp))
  clear R1 h1 c0 c1 ST HR
  have c0 : w1.cell? ⟨hv, 0, none⟩ = some (.pointer (some ⟨m, 0, none⟩)) := by rw [S1.out.hvr.cell]; rfl
  have c1 : w1.cell? ⟨m, 0, none⟩ = some (.slice (some ⟨ob, 0, none⟩) hk.block hk.block) := by rw [S1.out.mr.cell]; rfl
  have O0 : Hid (Row w1 ob 5 (List.replicate hk.block (Value.int .u8 0))) := by have := S1.out.orow; rwa [List.map_replicate] at this
  go_wp2
  refine J1.out _ _ (wp_seq_k (fun K2 k2 => ?_))
  have J2 := Lib.hid k2
  clear k2
  go_wp2_with (refine wpList_copy_by rfl _ _ rfl ob 0 hk.block hk.block vk (Pu.keyOf hk key) 5 (List.replicate hk.block (Value.int .u8 0)) (Pu.keyOf hk key).length (Nat.min_eq_left KL.out).symm rfl rfl HR1.out O0.out (by simp) ?_)
  intro w2 h2
  have R2 := h2.out.1
  rw [pad_cells hk key] at R2
  have S2 : Hid (NewSt w0 w2 hk hv m bo so bi si ob ip (padKey hk key) (padKey hk key) [] n) := S1.out.orows h2.out.2 R2 (padKey_length S1.out.ok key)
  clear R2 h2 c0 c1 S1 HR1 HF I0 O0
  go_wp2
  have c0 : w2.cell? ⟨hv, 0, none⟩ = some (.pointer (some ⟨m, 0, none⟩)) := by rw [S2.out.hvr.cell]; rfl
  have c1 : w2.cell? ⟨m, 1, none⟩ = some (.slice (some ⟨ip, 0, none⟩) hk.block hk.block) := by rw [S2.out.mr.cell]; rfl
  refine J2.out _ _ (wp_seq_k (fun K3 k3 => ?_))
  have J3 := Lib.hid k3
  clear k3
  go_wp2
  have d1 : hv ≠ ip := by have := S2.out.o2; have := S2.out.o3; have := S2.out.o4; omega
  have d2 : m ≠ ip := by have := S2.out.o1; have := S2.out.o2; have := S2.out.o3; have := S2.out.o4; omega
  refine nlOILoop _ w2 ⟨rfl, rfl⟩ _ hv m ip hk.block (padKey hk key) (padKey_length S2.out.ok key) B64.out c0 c1 S2.out.irow d1 d2 rfl rfl rfl ?_
  rintro a3 w3 ⟨f3, s3, r3, t3⟩
  have S3 : Hid (NewSt w0 w3 hk hv m bo so bi si ob ip (padKey hk key) (ipad hk key) [] n) := S2.out.irows t3 r3 (ipad_length S2.out.ok key)
  have g1 : G a3 1 = vk := s3.get 1 rfl
  have g5 : G a3 5 = .pointer (some ⟨hv, 0, none⟩) := s3.get 5 rfl
  rw [lit121 a3 f3]
  simp only [g1, g5]
  clear f3 s3 r3 t3 c0 c1 S2 g1 g5 d1 d2
  go_wp2
  have c0 : w3.cell? ⟨hv, 0, none⟩ = some (.pointer (some ⟨m, 0, none⟩)) := by rw [S3.out.hvr.cell]; rfl
  have c1 : w3.cell? ⟨m, 0, none⟩ = some (.slice (some ⟨ob, 0, none⟩) hk.block hk.block) := by rw [S3.out.mr.cell]; rfl
  refine J3.out _ _ (wp_seq_k (fun K4 k4 => ?_))
  have J4 := Lib.hid k4
  clear k4
  go_wp2
  have d1 : hv ≠ ob := by have := S3.out.o2; have := S3.out.o3; have := S3.out.o4; have := S3.out.o5; omega
  have d2 : m ≠ ob := by have := S3.out.o1; have := S3.out.o2; have := S3.out.o3; have := S3.out.o4; have := S3.out.o5; omega
  refine nlOOLoop _ w3 ⟨rfl, rfl⟩ _ hv m ob hk.block (padKey hk key) (padKey_length S3.out.ok key) B64.out c0 c1 S3.out.orow d1 d2 rfl rfl rfl ?_
  rintro a4 w4 ⟨f4, s4, r4, t4⟩
  have S4 : Hid (NewSt w0 w4 hk hv m bo so bi si ob ip (opad hk key) (ipad hk key) [] n) := S3.out.orows t4 r4 (opad_length S3.out.ok key)
  have g5 : G a4 5 = .pointer (some ⟨hv, 0, none⟩) := s4.get 5 rfl
  rw [lit121 a4 f4]
  simp only [g5]
  clear f4 s4 r4 t4 c0 c1 S3 g5 d1 d2
  go_wp2
  have c0 : w4.cell? ⟨hv, 0, none⟩ = some (.pointer (some ⟨m, 0, none⟩)) := by rw [S4.out.hvr.cell]; rfl
  have c1 : w4.cell? ⟨m, 1, none⟩ = some (.slice (some ⟨ip, 0, none⟩) hk.block hk.block) := by rw [S4.out.mr.cell]; rfl
  have c3 : w4.cell? ⟨m, 3, none⟩ = some (.iface (hT hk) (.pointer (some ⟨bi, 0, none⟩))) := by rw [S4.out.mr.cell]; rfl
  refine J4.out _ _ (wp_seq_k (fun K5 k5 => ?_))
  have J5 := Lib.hid k5
  clear k5
  refine wp_region_quiet_tail 10 (by kernel_rfl) (by kernel_rfl) ?_
  simp only [List.take_succ_cons, List.take_zero, List.drop_succ_cons, List.drop_zero]
  repeat (go_big_quiet_step (fail))
  refine wpQuiet_nil ?_
  go_wp2_with (fail)
  have S5 : Hid (NewSt w0 w4.drew hk hv m bo so bi si ob ip (opad hk key) (ipad hk key) [] n) := S4.out.tch1 (Tch.drewN (S := []) w4 1) (by simp)
  have rd5 : Rd w4.drew (.slice (some ⟨ip, 0, none⟩) hk.block hk.block) (ipad hk key) := rd_row S5.out.irow (ipad_length S5.out.ok key).symm (by rw [ipad_length S5.out.ok key]; have := B64.out; unfold maxLen; omega)
  have of5 : Off [bi, si] (.slice (some ⟨ip, 0, none⟩) hk.block hk.block) := by
    intro b hb; simp only [Value.ownBlock, Option.some.injEq] at hb; subst hb
    have := S5.out.o4; simp only [List.mem_cons, List.not_mem_nil, or_false]; omega
  refine (hWrite hk bi si [] (ipad hk key) _ w4.drew S5.out.inner rd5 (.inr ⟨_, _, _, _, rfl⟩) of5 (by rw [List.nil_append, ipad_length S5.out.ok key]; have := B64.out; omega)).mono ?_
  rintro e w6 ⟨rfl, h6⟩
  have S6 : Hid (NewSt w0 w6 hk hv m bo so bi si ob ip (opad hk key) (ipad hk key) (ipad hk key) n) := S5.out.inn h6.out.2 h6.out.1
  clear h6 S5 S4 rd5 of5 c0 c1 c3
  have c0 : w6.cell? ⟨hv, 0, none⟩ = some (.pointer (some ⟨m, 0, none⟩)) := by rw [S6.out.hvr.cell]; rfl
  go_wp2
  refine J5.out _ _ ?_
  go_wp2
  go_ret
  exact S6.out.mac
end Go.Proofs.YtgomodhhomekpaaDoor

/-
  hmac.New: a key that is longer than a block is hashed.
-/
namespace Go.Proofs.YtgomodhhomekpaaDoor
open Go.RowKit Pu Ar
theorem NewSt.big {w0 w : World} {hk : Pu.HK} {hv m bo so bi si ob ip : Nat} {obs ibs lin : By} {n : Int} (h : NewSt w0 w hk hv m bo so bi si ob ip obs ibs lin n) : ob < w.heap.size ∧ w0.heap.size ≤ bo ∧ w0.heap.size ≤ so ∧ w0.heap.size ≤ ip ∧ w0.heap.size ≤ ob := by
  have h0 := h.k0; have h1 := h.o1; have h2 := h.o2; have h3 := h.o3; have h4 := h.o4; have h5 := h.o5; have h6 := h.o0
  exact ⟨h.orow.lt, by omega, by omega, by omega, by omega⟩
set_option maxHeartbeats 1000000 in
set_option maxRecDepth 100000 in
theorem hnKeyD (a : Act) (w0 w : World) (h : Frm 121 a) (hk : Pu.HK) (hv m bo so bi si ob ip : Nat) (key : By) (v : Value) (n : Int)
    (st : NewSt w0 w hk hv m bo so bi si ob ip (List.replicate hk.block 0) (List.replicate hk.block 0) [] n) (ho : HIs w hk bo so []) (hr : Rd w v key) (hnm : Nm v) (hlt : ∀ b, v.ownBlock = some b → b < w0.heap.size) (hkl : key.length ≤ 1099511627776)
    (g1 : G a 1 = v) (g5 : G a 5 = .pointer (some ⟨hv, 0, none⟩)) (g7 : G a 7 = .int .i64 hk.block) :
    (part (bodyOf Tryd.f29) [true, true, true, true, true, true, true, true, true, true]).wp Tryd.prog (bodyPost Tryd.prog Tryd.f29 (HNE w0 hk key)) a w := by
  obtain ⟨vp, vc, rfl, _, _, _⟩ := id hr
  have off1 : Off [ip, ob] (.slice vp key.length vc) := by
    intro b hb hm; have := hlt b hb; have := st.big; simp only [List.mem_cons, List.not_mem_nil, or_false] at hm; omega
  have off2 : Off [bo, so] (.slice vp key.length vc) := by
    intro b hb hm; have := hlt b hb; have := st.big; simp only [List.mem_cons, List.not_mem_nil, or_false] at hm; omega
  have c0 : w.cell? ⟨hv, 0, none⟩ = some (.pointer (some ⟨m, 0, none⟩)) := by rw [st.hvr.cell]; rfl
  have c2 : w.cell? ⟨m, 2, none⟩ = some (.iface (hT hk) (.pointer (some ⟨bo, 0, none⟩))) := by rw [st.mr.cell]; rfl
  have e1 := mWrite hk
  have e2 := cWrite hk
  have e3 := mSum hk
  have e4 := cSum hk
  conv => arg 2; whnf
  rw [lit121 a h]
  simp only [g1, g5, g7]
  have ST := Lib.hid st
  have HO := Lib.hid ho
  have HR := Lib.hid hr
  have OFF1 := Lib.hid off1
  have OFF2 := Lib.hid off2
  have HNM := Lib.hid hnm
  have HKL := Lib.hid hkl
  clear h g1 g5 g7 st ho hr off1 off2 hlt hnm hkl
  refine wp_seq_k (fun K1 k1 => ?_)
  have J1 := Lib.hid k1
  clear k1
  by_cases hlen : hk.block < key.length
  · have hki : (hk.block : Int) < key.length := by exact_mod_cast hlen
    have HKK : Hid (Pu.keyOf hk key = hk.hash key) := by unfold Pu.keyOf; rw [if_pos hlen]; rfl
    clear hlen
    go_wp2_with (fail)
    refine (hWrite hk bo so [] key _ w HO.out HR.out HNM.out OFF2.out (by rw [List.nil_append]; exact HKL.out)).mono ?_
    rintro e w1 ⟨rfl, h1⟩
    have S1 : Hid (NewSt w0 w1 hk hv m bo so bi si ob ip (List.replicate hk.block 0) (List.replicate hk.block 0) [] n) := ST.out.out h1.out.2 h1.out.1
    have HO1 : Hid (HIs w1 hk bo so key) := h1.out.1
    clear h1 c0 c2 ST HO HR
    have c0 : w1.cell? ⟨hv, 0, none⟩ = some (.pointer (some ⟨m, 0, none⟩)) := by rw [S1.out.hvr.cell]; rfl
    have c2 : w1.cell? ⟨m, 2, none⟩ = some (.iface (hT hk) (.pointer (some ⟨bo, 0, none⟩))) := by rw [S1.out.mr.cell]; rfl
    go_wp2_with (fail)
    refine (hSum hk bo so key [] (.slice none 0 0) w1 HO1.out (Own.nil _) (by intro b hb; cases hb) HKL.out (by simp)).mono ?_
    rintro e w2 ⟨v2, rfl, h2⟩
    have off2 : Off [ip, ob] v2 := h2.out.fresh (by
      intro b hb; have := S1.out.big; have := S1.out.o5; simp only [List.mem_cons, List.not_mem_nil, or_false] at hb; omega)
    have S2 : Hid (NewSt w0 w2 hk hv m bo so bi si ob ip (List.replicate hk.block 0) (List.replicate hk.block 0) [] n) := S1.out.tch1 h2.out.tchNil (by simp)
    have OFF2 := Lib.hid off2
    have RD2 : Hid (Rd w2 v2 (Pu.keyOf hk key)) := by rw [HKK.out]; exact h2.out.1.rd
    clear h2 off2 S1 HO1 c0 c2
    go_wp2
    refine J1.out _ _ ?_
    exact hnTailD _ w0 w2 ⟨rfl, rfl⟩ hk hv m bo so bi si ob ip key _ n S2.out RD2.out OFF2.out rfl rfl
  · have hki : ¬ (hk.block : Int) < key.length := by omega
    have HKK : Hid (Pu.keyOf hk key = key) := by unfold Pu.keyOf; rw [if_neg hlen]; rfl
    clear hlen
    go_wp2
    refine J1.out _ _ ?_
    exact hnTailD _ w0 w ⟨rfl, rfl⟩ hk hv m bo so bi si ob ip key _ n ST.out (by rw [HKK.out]; exact HR.out) OFF1.out rfl rfl
set_option maxHeartbeats 1000000 in
set_option maxRecDepth 100000 in
theorem hnKeyO (a : Act) (w0 w : World) (h : Frm 121 a) (hk : Pu.HK) (hv m bo so bi si ob ip : Nat) (key : By) (v : Value) (n : Int)
    (st : NewSt w0 w hk hv m bo so bi si ob ip (List.replicate hk.block 0) (List.replicate hk.block 0) [] n) (ho : HIs w hk bo so []) (hr : Rd w v key) (hnm : Nm v) (hlt : ∀ b, v.ownBlock = some b → b < w0.heap.size) (hkl : key.length ≤ 1099511627776)
    (g1 : G a 1 = v) (g5 : G a 5 = .pointer (some ⟨hv, 0, none⟩)) (g7 : G a 7 = .int .i64 hk.block) :
    (part (bodyOf Tryd.f30) [true, true, true, true, true, true, true, true, true, true]).wp Tryd.prog (bodyPost Tryd.prog Tryd.f30 (HNE w0 hk key)) a w := by
  obtain ⟨vp, vc, rfl, _, _, _⟩ := id hr
  have off1 : Off [ip, ob] (.slice vp key.length vc) := by
    intro b hb hm; have := hlt b hb; have := st.big; simp only [List.mem_cons, List.not_mem_nil, or_false] at hm; omega
  have off2 : Off [bo, so] (.slice vp key.length vc) := by
    intro b hb hm; have := hlt b hb; have := st.big; simp only [List.mem_cons, List.not_mem_nil, or_false] at hm; omega
  have c0 : w.cell? ⟨hv, 0, none⟩ = some (.pointer (some ⟨m, 0, none⟩)) := by rw [st.hvr.cell]; rfl
  have c2 : w.cell? ⟨m, 2, none⟩ = some (.iface (hT hk) (.pointer (some ⟨bo, 0, none⟩))) := by rw [st.mr.cell]; rfl
  have e1 := mWrite hk
  have e2 := cWrite hk
  have e3 := mSum hk
  have e4 := cSum hk
  conv => arg 2; whnf
  rw [lit121 a h]
  simp only [g1, g5, g7]
  have ST := Lib.hid st
  have HO := Lib.hid ho
  have HR := Lib.hid hr
  have OFF1 := Lib.hid off1
  have OFF2 := Lib.hid off2
  have HNM := Lib.hid hnm
  have HKL := Lib.hid hkl
  clear h g1 g5 g7 st ho hr off1 off2 hlt hnm hkl
  refine wp_seq_k (fun K1 k1 => ?_)
  have J1 := Lib.hid k1
  clear k1
  by_cases hlen : hk.block < key.length
  · have hki : (hk.block : Int) < key.length := by exact_mod_cast hlen
    have HKK : Hid (Pu.keyOf hk key = hk.hash key) := by unfold Pu.keyOf; rw [if_pos hlen]; rfl
    clear hlen
    go_wp2_with (fail)
    refine (hWrite hk bo so [] key _ w HO.out HR.out HNM.out OFF2.out (by rw [List.nil_append]; exact HKL.out)).mono ?_
    rintro e w1 ⟨rfl, h1⟩
    have S1 : Hid (NewSt w0 w1 hk hv m bo so bi si ob ip (List.replicate hk.block 0) (List.replicate hk.block 0) [] n) := ST.out.out h1.out.2 h1.out.1
    have HO1 : Hid (HIs w1 hk bo so key) := h1.out.1
    clear h1 c0 c2 ST HO HR
    have c0 : w1.cell? ⟨hv, 0, none⟩ = some (.pointer (some ⟨m, 0, none⟩)) := by rw [S1.out.hvr.cell]; rfl
    have c2 : w1.cell? ⟨m, 2, none⟩ = some (.iface (hT hk) (.pointer (some ⟨bo, 0, none⟩))) := by rw [S1.out.mr.cell]; rfl
    go_wp2_with (fail)
    refine (hSum hk bo so key [] (.slice none 0 0) w1 HO1.out (Own.nil _) (by intro b hb; cases hb) HKL.out (by simp)).mono ?_
    rintro e w2 ⟨v2, rfl, h2⟩
    have off2 : Off [ip, ob] v2 := h2.out.fresh (by
      intro b hb; have := S1.out.big; have := S1.out.o5; simp only [List.mem_cons, List.not_mem_nil, or_false] at hb; omega)
    have S2 : Hid (NewSt w0 w2 hk hv m bo so bi si ob ip (List.replicate hk.block 0) (List.replicate hk.block 0) [] n) := S1.out.tch1 h2.out.tchNil (by simp)
    have OFF2 := Lib.hid off2
    have RD2 : Hid (Rd w2 v2 (Pu.keyOf hk key)) := by rw [HKK.out]; exact h2.out.1.rd
    clear h2 off2 S1 HO1 c0 c2
    go_wp2
    refine J1.out _ _ ?_
    exact hnTailO _ w0 w2 ⟨rfl, rfl⟩ hk hv m bo so bi si ob ip key _ n S2.out RD2.out OFF2.out rfl rfl
  · have hki : ¬ (hk.block : Int) < key.length := by omega
    have HKK : Hid (Pu.keyOf hk key = key) := by unfold Pu.keyOf; rw [if_neg hlen]; rfl
    clear hlen
    go_wp2
    refine J1.out _ _ ?_
    exact hnTailO _ w0 w ⟨rfl, rfl⟩ hk hv m bo so bi si ob ip key _ n ST.out (by rw [HKK.out]; exact HR.out) OFF1.out rfl rfl
end Go.Proofs.YtgomodhhomekpaaDoor
