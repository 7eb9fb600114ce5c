/-
  hmac.New's closure: the two hashes are not the same.
-/
import Derived.Test.YtgomodhhomekpaaCp
import Derived.Defers
import Derived.Recover
import Derived.LaidEql
namespace Go.Proofs.Ytgomodhhomekpaa
open Go.RowKit Pu Ar
theorem info_pD : (Try.prog.info? 74).map (fun i => i.comparable) = some true := by kernel_rfl
theorem info_sD : (Try.prog.info? 104).map (fun i => decide (i.size = 0)) = some false := by kernel_rfl
theorem eqlD {w : World} {b1 b2 : Nat} {x y : List Value} (h1 : Row w b1 104 x) (h2 : Row w b2 104 y) (hne : b1 ≠ b2) :
    (binOp .eql 93 (.iface 74 (.pointer (some ⟨b1, 0, none⟩))) (.iface 74 (.pointer (some ⟨b2, 0, none⟩)))).run Try.prog w = .ok (.bool false) w := by
  obtain ⟨i, hi, hc⟩ := Option.map_eq_some_iff.1 info_pD
  obtain ⟨j, hj, hs⟩ := Option.map_eq_some_iff.1 info_sD
  exact run_eql_iface_ptr_other (P := Try.prog) w Try.underlying93 Try.underlying74 hi hc hj (of_decide_eq_false hs) (by intro e; exact hne (congrArg Addr.block e)) h1 h2
theorem recD (w : World) : CallsD Try.prog 73 #[] .returning w fun e u' w' => e = .returned (.tuple #[]) ∧ u' = .returning ∧ w' = w := by
  refine callsD_of_wpS Try.func73 rfl fun c₀ cs hu => ?_
  apply wpS_region
  simp [wpOpsS, go_sem, recoverD, hu, Try.ntmps73, bodyPostS, results, Try.results73]
  cases c₀
  simp_all
set_option maxRecDepth 100000 in
theorem closD (w : World) (hv uv m b1 b2 : Nat) (x y : List Value) (c0 : w.cell? ⟨hv, 0, none⟩ = some (.pointer (some ⟨m, 0, none⟩)))
    (c2 : w.cell? ⟨m, 2, none⟩ = some (.iface 74 (.pointer (some ⟨b1, 0, none⟩)))) (c3 : w.cell? ⟨m, 3, none⟩ = some (.iface 74 (.pointer (some ⟨b2, 0, none⟩))))
    (h1 : Row w b1 104 x) (h2 : Row w b2 104 y) (hne : b1 ≠ b2) :
    Calls Try.prog 72 #[.pointer (some ⟨hv, 0, none⟩), .pointer (some ⟨uv, 0, none⟩)] w fun e w' => e = .returned (.tuple #[]) ∧ Hid (Tch [] w w') := by
  have he := fun n => eqlD (h1.drewN n) (h2.drewN n) hne
  clear h1 h2 hne
  go_enter_defers Try.func72, Try.ntmps72
  go_wp2
  go_quiet (fail)
  go_wp2
  refine leaves_cons (f := 73) (args := #[]) (by simp) (by simp [go_sem]) ?_
  refine (recD _).mono ?_
  rintro e u' w'' ⟨rfl, rfl, rfl⟩
  exact ⟨_, results_none (by kernel_rfl) _ _ _, rfl, Tch.drewN _ _⟩
theorem info_pO : (Try.prog.info? 77).map (fun i => i.comparable) = some true := by kernel_rfl
theorem info_sO : (Try.prog.info? 106).map (fun i => decide (i.size = 0)) = some false := by kernel_rfl
theorem eqlO {w : World} {b1 b2 : Nat} {x y : List Value} (h1 : Row w b1 106 x) (h2 : Row w b2 106 y) (hne : b1 ≠ b2) :
    (binOp .eql 93 (.iface 77 (.pointer (some ⟨b1, 0, none⟩))) (.iface 77 (.pointer (some ⟨b2, 0, none⟩)))).run Try.prog w = .ok (.bool false) w := by
  obtain ⟨i, hi, hc⟩ := Option.map_eq_some_iff.1 info_pO
  obtain ⟨j, hj, hs⟩ := Option.map_eq_some_iff.1 info_sO
  exact run_eql_iface_ptr_other (P := Try.prog) w Try.underlying93 Try.underlying77 hi hc hj (of_decide_eq_false hs) (by intro e; exact hne (congrArg Addr.block e)) h1 h2
theorem recO (w : World) : CallsD Try.prog 75 #[] .returning w fun e u' w' => e = .returned (.tuple #[]) ∧ u' = .returning ∧ w' = w := by
  refine callsD_of_wpS Try.func75 rfl fun c₀ cs hu => ?_
  apply wpS_region
  simp [wpOpsS, go_sem, recoverD, hu, Try.ntmps75, bodyPostS, results, Try.results75]
  cases c₀
  simp_all
set_option maxRecDepth 100000 in
theorem closO (w : World) (hv uv m b1 b2 : Nat) (x y : List Value) (c0 : w.cell? ⟨hv, 0, none⟩ = some (.pointer (some ⟨m, 0, none⟩)))
    (c2 : w.cell? ⟨m, 2, none⟩ = some (.iface 77 (.pointer (some ⟨b1, 0, none⟩)))) (c3 : w.cell? ⟨m, 3, none⟩ = some (.iface 77 (.pointer (some ⟨b2, 0, none⟩))))
    (h1 : Row w b1 106 x) (h2 : Row w b2 106 y) (hne : b1 ≠ b2) :
    Calls Try.prog 74 #[.pointer (some ⟨hv, 0, none⟩), .pointer (some ⟨uv, 0, none⟩)] w fun e w' => e = .returned (.tuple #[]) ∧ Hid (Tch [] w w') := by
  have he := fun n => eqlO (h1.drewN n) (h2.drewN n) hne
  clear h1 h2 hne
  go_enter_defers Try.func74, Try.ntmps74
  go_wp2
  go_quiet (fail)
  go_wp2
  refine leaves_cons (f := 75) (args := #[]) (by simp) (by simp [go_sem]) ?_
  refine (recO _).mono ?_
  rintro e u' w'' ⟨rfl, rfl, rfl⟩
  exact ⟨_, results_none (by kernel_rfl) _ _ _, rfl, Tch.drewN _ _⟩
end Go.Proofs.Ytgomodhhomekpaa
