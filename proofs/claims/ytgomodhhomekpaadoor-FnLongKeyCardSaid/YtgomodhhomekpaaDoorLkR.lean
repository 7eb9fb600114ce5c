/-
  LongKey: for every input the law returns true, and each argument reads behind the call as it read before: the row's tied card. Conditions: none but those of the given statement.
-/
import Derived.Test.YtgomodhhomekpaaDoorM4
import Derived.Test.YtgomodhhomekpaaDoorLk
import Derived.Test.YtgomodhhomekpaaDoorCards
import Derived.Test.YtgomodhhomekpaaDoorTie
import Derived.SevenTiedAt
import Derived.Stop.Joined
namespace Go.Proofs.YtgomodhhomekpaaDoor
open Go.ChangeShapes Go.WideShapes Go.ChangeAt Go.RowKit Go.Joins Pu Ar
set_option linter.unusedVariables false
theorem doorLongKey (os : Os) (args : Array Value) : laidMetH Tryd.prog Rows.fnLongKeyRow.laid ((World.doorLaid Tryd.prog 400 os).forCall (fun _ _ => 0) ⟨#[], args, []⟩).memory :=
  laidMetH_of_parts3 (fuel := 8) (laidMet_of_run' 8 (by kernel_rfl) (by kernel_rfl)) (by kernel_rfl) (by kernel_rfl)
set_option maxHeartbeats 1000000 in
set_option maxRecDepth 100000 in
theorem liftLongKey (os : Os) (started : os.Started) (H : Type) (enc : TypeId × Value → H) :
    ReturnsInHanded {} Tryd.checked os 4 .any (fun w args => (Rows.fnLongKeySpec.pre enc Tryd.prog Tryd.f4 Rows.fnLongKeyRow.domain false w args ∧ laidMetH Tryd.prog Rows.fnLongKeyRow.laid w) ∧ sizedMet enc Tryd.prog Tryd.f4 (OpenSpec.ofChange Rows.fnLongKeySpec) false w args) (Rows.fnLongKeySpec.post enc Tryd.prog Tryd.f4 false true false false) := by
  refine change_and_shaped (C := Tryd.checked) (X := fun w _ => laidMetH Tryd.prog Rows.fnLongKeyRow.laid w) (fun _ _ _ hh h => h.of_heap hh) rOwn started (by kernel_rfl) Tryd.func4
    (ChangeSpec.witness_shaped (enc := enc) (C := Tryd.checked) (os := os) (X := fun w _ => laidMetH Tryd.prog Rows.fnLongKeyRow.laid w) false (World.doorLaid Tryd.prog 400 os) #[.agg #[.int .i64 0, .int .i64 0, .int .i64 0], .slice none 0 0, .slice none 0 0] 8 rfl (World.shaped_of_RefB (by kernel_rfl) (by kernel_rfl)) (by kernel_rfl) (by kernel_rfl) (by kernel_rfl) (doorLongKey os _)) ?_
  intro W base args ds gs before hval0 hW hL hsh
  have hval : ∀ (j : Nat) t v, Tryd.f4.params[j]? = some t → args[j]? = some v → Value.okWide Tryd.prog W .any base t v := hval0
  have hW' := hW
  obtain ⟨p, q, hA0, hV0, rfl, hfz, hnd⟩ := hW
  have hA : DataW.TrodAll enc Tryd.prog W 0 (fun _ => true) true Tryd.f4.params.toList args.toList ds p := hA0
  rw [Tryd.params4] at hA hval
  obtain ⟨v0, vs0, d0, ds0, p0, q0, hargs, rfl, rfl, h0, r0⟩ := trodAll_cons hA
  obtain ⟨v1, vs1, d1, ds1, p1, q1, rfl, rfl, rfl, h1, r1⟩ := trodAll_cons r0
  obtain ⟨v2, vs2, d2, ds2, p2, q2, rfl, rfl, rfl, h2, r2⟩ := trodAll_cons r1
  obtain ⟨rfl, rfl, rfl⟩ := trodAll_nil r2
  obtain rfl : args = #[v0, v1, v2] := by cases args; simp_all
  have hV : DataW.TrodVars enc Tryd.prog W (fun _ => true) Rows.fnLongKeySpec.vars gs q := hV0
  obtain ⟨g1, rfl⟩ : ∃ g1, gs = [g1] := by
    match gs, hV with
    | [g], _ => exact ⟨g, rfl⟩
  obtain ⟨k0, s0, b0, hv0⟩ := open_hash (hval 0 23 v0 rfl rfl) h0
  obtain ⟨l1, e1⟩ := open_by (hval 1 24 v1 rfl rfl) h1
  obtain ⟨l2, e2⟩ := open_by (hval 2 24 v2 rfl rfl) h2
  obtain ⟨kt, hK⟩ := kis_of_shape hsh
  clear hA0 hval0 hV0
  have walked : Calls Tryd.prog 4 #[v0, v1, v2] W fun e W' => e = .returned (.bool true) ∧ Hid (Tch [] W W') := by
    rw [hv0]
    exact fnLongKey kt k0 s0 b0 l1 l2 v1 v2 W hK e1 e2
  refine walked.mono fun e W' ⟨he, ht⟩ => ?_
  have bel := ht.out.below
  subst he
  exact ⟨_, rfl, _, _, _, [], _, q, hW', trodAll_mk1 (shut_bool Tryd.underlying4 _), (trodAll_cons_mk (again (by kernel_rfl) (of_decide_eq_true (by kernel_rfl)) h0 bel) (trodAll_cons_mk (again (by kernel_rfl) (of_decide_eq_true (by kernel_rfl)) h1 bel) (trodAll_cons_mk (again (by kernel_rfl) (of_decide_eq_true (by kernel_rfl)) h2 bel) trodAll_mk0))), (Below.trodVars rLaid bel (by kernel_rfl) hV), bel.frame _, fun h => by cases h⟩
theorem overLongKey : Rows.FnLongKeySaid :=
  OpenClaim.holds_of_wide 4 Tryd.f4 rfl rfl rfl rfl rfl rfl rfl ⟨rfl, rfl, rfl, rfl, rfl⟩ rfl rfl rfl rfl rfl (by kernel_rfl) Tryd.func4 (by kernel_rfl)
    (of_decide_eq_true (by kernel_rfl)) (by unfold Func.isWrapper; first | (rw [if_pos (by decide +kernel)]; kernel_rfl) | (rw [if_neg (by decide +kernel)]; exact ⟨rfl, rfl⟩))
    (fun os started H enc _ => liftLongKey os started H enc)
/-- THE TIED CARD. -/
theorem provedLongKey : Rows.FnLongKeyCardSaid :=
  Claim7.holds_tied_plain_at .later [] [.data] true (true, "0235bc63eff8adddbf93902c6421eb679e6ddf727874e12d9e320e59bfa9d48c") true
    overLongKey (fun _ h => by cases h) (by kernel_rfl) (fun _ h => by cases h) fnLongKey_row_tie rfl ⟨rfl, rfl⟩ (by kernel_rfl) rfl
    (fun f fn hf hfn => by
      obtain rfl : f = 4 := Option.some.inj ((show Tryd.prog.funcNamed Rows.fnLongKeyRow.func = some 4 by kernel_rfl).symm.trans hf) |>.symm
      obtain rfl : fn = Tryd.f4 := (Option.some.inj (Tryd.func4.symm.trans hfn)).symm
      exact ⟨by kernel_rfl, fun j t ht => by
        rw [Tryd.params4] at ht
        have hm : t ∈ [23, 24, 24] := by simpa using Array.mem_of_getElem? ht
        have hall : ([23, 24, 24].all fun u => !Tryd.prog.wantsStandIn u) = true := by kernel_rfl
        exact (show Tryd.prog.wantsStandIn t = false by simpa using List.all_eq_true.1 hall t hm)⟩)
    (by kernel_rfl)
#print axioms provedLongKey
end Go.Proofs.YtgomodhhomekpaaDoor
