/-
  Sum: for every input the law returns true, and each argument reads behind the call as it read before: the row's tied card. Conditions: none but those of the given statement.
-/
import Derived.Test.YtgomodhhomekpaaDoorM4
import Derived.Test.YtgomodhhomekpaaDoorZg
import Derived.Lib.LaidTab
import Derived.Test.YtgomodhhomekpaaDoorCards
import Derived.Test.YtgomodhhomekpaaDoorTie
import Derived.SevenTiedAt
import Derived.Stop.Joined
namespace Go.Proofs.YtgomodhhomekpaaDoor
open Go.ChangeShapes Go.WideShapes Go.ChangeAt Go.RowKit Go.Joins Pu Ar
set_option linter.unusedVariables false
theorem kc_words : Rows.fnSumRow.laid = [("loop.example/pub-g03128/pub/sha256._K", Lib.tabData .u32 (kc.map iw))] := by kernel_rfl
/-- The table holds the words that the row tells. -/
theorem kc_of_laid {W : World} {kt : List UInt32} (hK : KIs W kt) (hL : laidMetH Tryd.prog Rows.fnSumRow.laid W) : kt = kc := by
  have e : laidMetH Tryd.prog Rows.fnSumRow.laid W = laidMet Tryd.prog Rows.fnSumRow.laid W := by kernel_rfl
  rw [e, kc_words] at hL
  have hT := Lib.tabIs_of_head (g := 0) (t := 71) (e := 46) (n := 64) (by kernel_rfl) (by kernel_rfl) Tryd.underlying71 Tryd.underlying46 (by kernel_rfl) (by kernel_rfl) hL
  have hg : Tryd.prog.globalNamed "loop.example/pub-g03128/pub/sha256._K" = some 0 := by kernel_rfl
  have hr : W.heap[0]? = some (.cells (kt.map vw).toArray 71 (0, 0)) := hK.2
  unfold Lib.TabIs World.var? at hT
  rw [hg] at hT
  simp only [Option.bind_some, hr, Option.some.injEq] at hT
  have h1 : kt.map vw = kc.map vw := by
    have := congrArg Array.toList hT
    rw [List.map_map] at this
    exact this
  have inj : ∀ a b : UInt32, vw a = vw b → a = b := by
    intro a b h
    simp only [vw, Value.int.injEq, true_and] at h
    exact iw_inj h
  apply List.ext_getElem?
  intro i
  have := congrArg (·[i]?) h1
  simp only [List.getElem?_map] at this
  cases h2 : kt[i]? with
  | none => rw [h2] at this; cases h3 : kc[i]? with
    | none => rfl
    | some y => rw [h3] at this; simp at this
  | some x => rw [h2] at this; cases h3 : kc[i]? with
    | none => rw [h3] at this; simp at this
    | some y => rw [h3] at this; simp only [Option.map_some, Option.some.injEq] at this; rw [inj _ _ this]
theorem doorSum (os : Os) (args : Array Value) : laidMetH Tryd.prog Rows.fnSumRow.laid ((World.doorLaid Tryd.prog 400 os).forCall (fun _ _ => 0) ⟨#[], args, []⟩).memory :=
  laidMetH_of_parts3 (fuel := 8) (laidMet_of_run' 8 (by kernel_rfl) (by kernel_rfl)) (by kernel_rfl) (by kernel_rfl)
set_option maxHeartbeats 1000000 in
set_option maxRecDepth 100000 in
theorem liftSum (os : Os) (started : os.Started) (H : Type) (enc : TypeId × Value → H) :
    ReturnsInHanded {} Tryd.checked os 3 .any (fun w args => (Rows.fnSumSpec.pre enc Tryd.prog Tryd.f3 Rows.fnSumRow.domain false w args ∧ laidMetH Tryd.prog Rows.fnSumRow.laid w) ∧ sizedMet enc Tryd.prog Tryd.f3 (OpenSpec.ofChange Rows.fnSumSpec) false w args) (Rows.fnSumSpec.post enc Tryd.prog Tryd.f3 false true false false) := by
  refine change_and_shaped (C := Tryd.checked) (X := fun w _ => laidMetH Tryd.prog Rows.fnSumRow.laid w) (fun _ _ _ hh h => h.of_heap hh) rOwn started (by kernel_rfl) Tryd.func3
    (ChangeSpec.witness_shaped (enc := enc) (C := Tryd.checked) (os := os) (X := fun w _ => laidMetH Tryd.prog Rows.fnSumRow.laid w) false (World.doorLaid Tryd.prog 400 os) #[.agg #[.int .i64 0, .int .i64 0, .int .i64 0], .slice none 0 0] 8 rfl (World.shaped_of_RefB (by kernel_rfl) (by kernel_rfl)) (by kernel_rfl) (by kernel_rfl) (by kernel_rfl) (doorSum os _)) ?_
  intro W base args ds gs before hval0 hW hL hsh
  have hval : ∀ (j : Nat) t v, Tryd.f3.params[j]? = some t → args[j]? = some v → Value.okWide Tryd.prog W .any base t v := hval0
  have hW' := hW
  obtain ⟨p, q, hA0, hV0, rfl, hfz, hnd⟩ := hW
  have hA : DataW.TrodAll enc Tryd.prog W 0 (fun _ => true) true Tryd.f3.params.toList args.toList ds p := hA0
  rw [Tryd.params3] at hA hval
  obtain ⟨v0, vs0, d0, ds0, p0, q0, hargs, rfl, rfl, h0, r0⟩ := trodAll_cons hA
  obtain ⟨v1, vs1, d1, ds1, p1, q1, rfl, rfl, rfl, h1, r1⟩ := trodAll_cons r0
  obtain ⟨rfl, rfl, rfl⟩ := trodAll_nil r1
  obtain rfl : args = #[v0, v1] := by cases args; simp_all
  have hV : DataW.TrodVars enc Tryd.prog W (fun _ => true) Rows.fnSumSpec.vars gs q := hV0
  obtain ⟨g1, rfl⟩ : ∃ g1, gs = [g1] := by
    match gs, hV with
    | [g], _ => exact ⟨g, rfl⟩
  obtain ⟨k0, s0, b0, hv0⟩ := open_hash (hval 0 23 v0 rfl rfl) h0
  obtain ⟨l1, e1⟩ := open_by (hval 1 24 v1 rfl rfl) h1
  obtain ⟨kt, hK⟩ := kis_of_shape hsh
  obtain rfl := kc_of_laid hK hL
  clear hA0 hval0 hV0
  have walked : Calls Tryd.prog 3 #[v0, v1] W fun e W' => e = .returned (.bool true) ∧ Hid (Tch [] W W') := by
    rw [hv0]
    exact fnSum k0 s0 b0 l1 v1 W hK e1
  refine walked.mono fun e W' ⟨he, ht⟩ => ?_
  have bel := ht.out.below
  subst he
  exact ⟨_, rfl, _, _, _, [], _, q, hW', trodAll_mk1 (shut_bool Tryd.underlying4 _), (trodAll_cons_mk (again (by kernel_rfl) (of_decide_eq_true (by kernel_rfl)) h0 bel) (trodAll_cons_mk (again (by kernel_rfl) (of_decide_eq_true (by kernel_rfl)) h1 bel) trodAll_mk0)), (Below.trodVars rLaid bel (by kernel_rfl) hV), bel.frame _, fun h => by cases h⟩
theorem overSum : Rows.FnSumSaid :=
  OpenClaim.holds_of_wide 3 Tryd.f3 rfl rfl rfl rfl rfl rfl rfl ⟨rfl, rfl, rfl, rfl, rfl⟩ rfl rfl rfl rfl rfl (by kernel_rfl) Tryd.func3 (by kernel_rfl)
    (of_decide_eq_true (by kernel_rfl)) (by unfold Func.isWrapper; first | (rw [if_pos (by decide +kernel)]; kernel_rfl) | (rw [if_neg (by decide +kernel)]; exact ⟨rfl, rfl⟩))
    (fun os started H enc _ => liftSum os started H enc)
/-- THE TIED CARD. -/
theorem provedSum : Rows.FnSumCardSaid :=
  Claim7.holds_tied_plain_at .later [] [.data] true (true, "0235bc63eff8adddbf93902c6421eb679e6ddf727874e12d9e320e59bfa9d48c") true
    overSum (fun _ h => by cases h) (by kernel_rfl) (fun _ h => by cases h) fnSum_row_tie rfl ⟨rfl, rfl⟩ (by kernel_rfl) rfl
    (fun f fn hf hfn => by
      obtain rfl : f = 3 := Option.some.inj ((show Tryd.prog.funcNamed Rows.fnSumRow.func = some 3 by kernel_rfl).symm.trans hf) |>.symm
      obtain rfl : fn = Tryd.f3 := (Option.some.inj (Tryd.func3.symm.trans hfn)).symm
      exact ⟨by kernel_rfl, fun j t ht => by
        rw [Tryd.params3] at ht
        have hm : t ∈ [23, 24] := by simpa using Array.mem_of_getElem? ht
        have hall : ([23, 24].all fun u => !Tryd.prog.wantsStandIn u) = true := by kernel_rfl
        exact (show Tryd.prog.wantsStandIn t = false by simpa using List.all_eq_true.1 hall t hm)⟩)
    (by kernel_rfl)
#print axioms provedSum
end Go.Proofs.YtgomodhhomekpaaDoor
