/-
  hmac.New's closure: the two hashes are not the same.
-/
import Derived.Test.YtgomodhhomekpaaDoorCp
import Derived.Defers
import Derived.Recover
import Derived.LaidEql
namespace Go.Proofs.YtgomodhhomekpaaDoor
open Go.RowKit Pu Ar
theorem info_pD : (Tryd.prog.info? 33).map (fun i => i.comparable) = some true := by kernel_rfl
theorem info_sD : (Tryd.prog.info? 51).map (fun i => decide (i.size = 0)) = some false := by kernel_rfl
theorem eqlD {w : World} {b1 b2 : Nat} {x y : List Value} (h1 : Row w b1 51 x) (h2 : Row w b2 51 y) (hne : b1 ≠ b2) :
    (binOp .eql 62 (.iface 33 (.pointer (some ⟨b1, 0, none⟩))) (.iface 33 (.pointer (some ⟨b2, 0, none⟩)))).run Tryd.prog w = .ok (.bool false) w := by
  obtain ⟨i, hi, hc⟩ := Option.map_eq_some_iff.1 info_pD
  obtain ⟨j, hj, hs⟩ := Option.map_eq_some_iff.1 info_sD
  exact run_eql_iface_ptr_other (P := Tryd.prog) w Tryd.underlying62 Tryd.underlying33 hi hc hj (of_decide_eq_false hs) (by intro e; exact hne (congrArg Addr.block e)) h1 h2
theorem recD (w : World) : CallsD Tryd.prog 37 #[] .returning w fun e u' w' => e = .returned (.tuple #[]) ∧ u' = .returning ∧ w' = w := by
  refine callsD_of_wpS Tryd.func37 rfl fun c₀ cs hu => ?_
  apply wpS_region
  simp [wpOpsS, go_sem, recoverD, hu, Tryd.ntmps37, bodyPostS, results, Tryd.results37]
  cases c₀
  simp_all
set_option maxRecDepth 100000 in
theorem closD (w : World) (hv uv m b1 b2 : Nat) (x y : List Value) (c0 : w.cell? ⟨hv, 0, none⟩ = some (.pointer (some ⟨m, 0, none⟩)))
    (c2 : w.cell? ⟨m, 2, none⟩ = some (.iface 33 (.pointer (some ⟨b1, 0, none⟩)))) (c3 : w.cell? ⟨m, 3, none⟩ = some (.iface 33 (.pointer (some ⟨b2, 0, none⟩))))
    (h1 : Row w b1 51 x) (h2 : Row w b2 51 y) (hne : b1 ≠ b2) :
    Calls Tryd.prog 36 #[.pointer (some ⟨hv, 0, none⟩), .pointer (some ⟨uv, 0, none⟩)] w fun e w' => e = .returned (.tuple #[]) ∧ Hid (Tch [] w w') := by
  have he := fun n => eqlD (h1.drewN n) (h2.drewN n) hne
  clear h1 h2 hne
  go_enter_defers Tryd.func36, Tryd.ntmps36
  go_wp2
  go_quiet (fail)
  go_wp2
  refine leaves_cons (f := 37) (args := #[]) (by simp) (by simp [go_sem]) ?_
  refine (recD _).mono ?_
  rintro e u' w'' ⟨rfl, rfl, rfl⟩
  exact ⟨_, results_none (by kernel_rfl) _ _ _, rfl, Tch.drewN _ _⟩
theorem info_pO : (Tryd.prog.info? 40).map (fun i => i.comparable) = some true := by kernel_rfl
theorem info_sO : (Tryd.prog.info? 56).map (fun i => decide (i.size = 0)) = some false := by kernel_rfl
theorem eqlO {w : World} {b1 b2 : Nat} {x y : List Value} (h1 : Row w b1 56 x) (h2 : Row w b2 56 y) (hne : b1 ≠ b2) :
    (binOp .eql 62 (.iface 40 (.pointer (some ⟨b1, 0, none⟩))) (.iface 40 (.pointer (some ⟨b2, 0, none⟩)))).run Tryd.prog w = .ok (.bool false) w := by
  obtain ⟨i, hi, hc⟩ := Option.map_eq_some_iff.1 info_pO
  obtain ⟨j, hj, hs⟩ := Option.map_eq_some_iff.1 info_sO
  exact run_eql_iface_ptr_other (P := Tryd.prog) w Tryd.underlying62 Tryd.underlying40 hi hc hj (of_decide_eq_false hs) (by intro e; exact hne (congrArg Addr.block e)) h1 h2
theorem recO (w : World) : CallsD Tryd.prog 39 #[] .returning w fun e u' w' => e = .returned (.tuple #[]) ∧ u' = .returning ∧ w' = w := by
  refine callsD_of_wpS Tryd.func39 rfl fun c₀ cs hu => ?_
  apply wpS_region
  simp [wpOpsS, go_sem, recoverD, hu, Tryd.ntmps39, bodyPostS, results, Tryd.results39]
  cases c₀
  simp_all
set_option maxRecDepth 100000 in
theorem closO (w : World) (hv uv m b1 b2 : Nat) (x y : List Value) (c0 : w.cell? ⟨hv, 0, none⟩ = some (.pointer (some ⟨m, 0, none⟩)))
    (c2 : w.cell? ⟨m, 2, none⟩ = some (.iface 40 (.pointer (some ⟨b1, 0, none⟩)))) (c3 : w.cell? ⟨m, 3, none⟩ = some (.iface 40 (.pointer (some ⟨b2, 0, none⟩))))
    (h1 : Row w b1 56 x) (h2 : Row w b2 56 y) (hne : b1 ≠ b2) :
    Calls Tryd.prog 38 #[.pointer (some ⟨hv, 0, none⟩), .pointer (some ⟨uv, 0, none⟩)] w fun e w' => e = .returned (.tuple #[]) ∧ Hid (Tch [] w w') := by
  have he := fun n => eqlO (h1.drewN n) (h2.drewN n) hne
  clear h1 h2 hne
  go_enter_defers Tryd.func38, Tryd.ntmps38
  go_wp2
  go_quiet (fail)
  go_wp2
  refine leaves_cons (f := 39) (args := #[]) (by simp) (by simp [go_sem]) ?_
  refine (recO _).mono ?_
  rintro e u' w'' ⟨rfl, rfl, rfl⟩
  exact ⟨_, results_none (by kernel_rfl) _ _ _, rfl, Tch.drewN _ _⟩
end Go.Proofs.YtgomodhhomekpaaDoor
