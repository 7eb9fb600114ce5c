/-
  Cuts: for every input the law returns true, and each argument reads behind the call as it read before: the row. Conditions: none but those of the given statement.
-/
import Derived.Test.YtgomodhhomekpaaM6
import Derived.Test.YtgomodhhomekpaaCu
namespace Go.Proofs.Ytgomodhhomekpaa
open Go.ChangeShapes Go.WideShapes Go.ChangeAt Go.RowKit Go.Joins Pu Ar
set_option linter.unusedVariables false
set_option maxHeartbeats 1000000 in
set_option maxRecDepth 100000 in
theorem liftCuts (os : Os) (started : os.Started) (H : Type) (enc : TypeId × Value → H) :
    ReturnsInHanded {} Try.checked os 3 .any (Rows.fnCutsSpec.pre6 enc Try.prog Try.f3 Rows.fnCutsRow.domain false) (Rows.fnCutsSpec.post enc Try.prog Try.f3 false true false false) := by
  refine returnsInHanded_of_change_shaped (C := Try.checked) rOwn started (by kernel_rfl) Try.func3
    (ChangeSpec.witness6 (enc := enc) (C := Try.checked) false ⟨#[], #[.agg #[.int .i64 0, .int .i64 0, .int .i64 0], .slice none 0 0, .slice none 0 0, .int .u16 0], []⟩ 8 (by kernel_rfl) (by kernel_rfl) (by kernel_rfl) (by kernel_rfl)) ?_
  intro W base args ds gs before hval0 hW _ _ hsh _
  have hval : ∀ (j : Nat) t v, Try.f3.params[j]? = some t → args[j]? = some v → Value.okWide Try.prog W .any base t v := hval0
  have hW' := hW
  obtain ⟨p, q, hA0, hV0, rfl, hfz, hnd⟩ := hW
  have hA : DataW.TrodAll enc Try.prog W 0 (fun _ => true) true Try.f3.params.toList args.toList ds p := hA0
  rw [Try.params3] at hA hval
  obtain ⟨v0, vs0, d0, ds0, p0, q0, hargs, rfl, rfl, h0, r0⟩ := trodAll_cons hA
  obtain ⟨v1, vs1, d1, ds1, p1, q1, rfl, rfl, rfl, h1, r1⟩ := trodAll_cons r0
  obtain ⟨v2, vs2, d2, ds2, p2, q2, rfl, rfl, rfl, h2, r2⟩ := trodAll_cons r1
  obtain ⟨v3, vs3, d3, ds3, p3, q3, rfl, rfl, rfl, h3, r3⟩ := trodAll_cons r2
  obtain ⟨rfl, rfl, rfl⟩ := trodAll_nil r3
  obtain rfl : args = #[v0, v1, v2, v3] := by cases args; simp_all
  obtain ⟨rfl, rfl⟩ := trodVars_none hV0
  obtain ⟨k0, s0, b0, hv0⟩ := open_hash (hval 0 23 v0 rfl rfl) h0
  obtain ⟨l1, e1⟩ := open_arg (hval 1 24 v1 rfl rfl) h1
  obtain ⟨l2, e2⟩ := open_arg (hval 2 24 v2 rfl rfl) h2
  obtain ⟨n3, hv3, e3⟩ := open_u16 (hval 3 25 v3 rfl rfl) h3
  obtain ⟨kt, hK⟩ := kis_of_shape hsh
  clear hA0 hval0 hV0
  have walked : Calls Try.prog 3 #[v0, v1, v2, v3] W fun e W' => e = .returned (.bool true) ∧ Hid (Tch [] W W') := by
    rw [hv0, hv3]
    exact fnCuts kt k0 s0 b0 l1 l2 n3 v1 v2 W hK e1 e2 e3
  refine walked.mono fun e W' ⟨he, ht⟩ => ?_
  have bel := ht.out.below
  subst he
  exact ⟨_, rfl, _, _, _, [], _, [], hW', trodAll_mk1 (shut_bool Try.underlying4 _), (trodAll_cons_mk (again (by kernel_rfl) (of_decide_eq_true (by kernel_rfl)) h0 bel) (trodAll_cons_mk (again (by kernel_rfl) (of_decide_eq_true (by kernel_rfl)) h1 bel) (trodAll_cons_mk (again (by kernel_rfl) (of_decide_eq_true (by kernel_rfl)) h2 bel) (trodAll_cons_mk (again (by kernel_rfl) (of_decide_eq_true (by kernel_rfl)) h3 bel) trodAll_mk0)))), rfl, bel.frame _, fun h => by cases h⟩
set_option maxRecDepth 100000 in
theorem factsCuts : joinedFacts Try.prog 3 Try.f3 Rows.fnCutsSpec Rows.fnCutsRow = true := by
  unfold joinedFacts
  rw [seatEnter, seatFinal, seatMake]
  kernel_rfl
theorem overCuts : Rows.FnCutsSaid :=
  OpenClaim.holds_of_wide 3 Try.f3 rfl rfl rfl rfl rfl rfl rfl ⟨rfl, rfl, rfl, rfl, rfl⟩ rfl rfl rfl rfl rfl (by kernel_rfl) Try.func3 factsCuts
    (of_decide_eq_true (by kernel_rfl)) (by unfold Func.isWrapper; first | (rw [if_pos (by decide +kernel)]; kernel_rfl) | (rw [if_neg (by decide +kernel)]; exact ⟨rfl, rfl⟩))
    (fun os started H enc _ => liftCuts os started H enc)
/-- THE STATEMENT. -/
theorem provedCuts : Rows.FnCutsSaid := overCuts
#print axioms provedCuts
end Go.Proofs.Ytgomodhhomekpaa
