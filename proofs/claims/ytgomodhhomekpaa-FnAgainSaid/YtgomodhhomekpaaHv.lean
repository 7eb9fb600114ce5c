/-
  laws.heavy: it tells something.
-/
import Derived.Test.YtgomodhhomekpaaM6
namespace Go.Proofs.Ytgomodhhomekpaa
open Go.RowKit Pu Ar
def SomeBool (w : World) (e : Ending) (w' : World) : Prop := ∃ b : Bool, e = .returned (.bool b) ∧ Hid (Tch [] w w')
theorem szK_bd (k s bl : Int) : 1 ≤ szK k s bl ∧ szK k s bl ≤ 32 := by
  have h1 := (kindOf_ok [] k s bl).size_pos
  have h2 := (kindOf_ok [] k s bl).size_le
  rw [kind_size] at h1 h2
  exact ⟨h1, h2⟩
theorem blK_bd (k s bl : Int) : blK k s bl ≤ 64 := by
  have h1 := (kindOf_ok [] k s bl).block_le
  rwa [kind_block] at h1
set_option maxHeartbeats 1000000 in
set_option maxRecDepth 100000 in
theorem lHeavy (k s bl : Int) (by' n r : Int) (w : World) : Calls Try.prog 29 #[.agg #[.int .i64 k, .int .i64 s, .int .i64 bl], .int .i64 by', .int .i64 n, .int .i64 r] w (SomeBool w) := by
  go_enter Try.func29, Try.ntmps29
  refine wp_seq_k (fun K0 k0 => ?_)
  have J0 := Lib.hid k0
  clear k0
  go_wp2
  generalize hW1 : World.alloc _ _ = W1
  have R1 : Row W1 w.heap.size 23 [.int .i64 k, .int .i64 s, .int .i64 bl] := by rw [← hW1]; exact Row.new w 23 _
  have T1 : Hid (Tch [] w W1) := by rw [← hW1]; exact Tch.alloc _ _
  have c0 : W1.cell? ⟨w.heap.size, 0, none⟩ = some (.int .i64 k) := by rw [R1.cell]; rfl
  have c1 : W1.cell? ⟨w.heap.size, 1, none⟩ = some (.int .i64 s) := by rw [R1.cell]; rfl
  have c2 : W1.cell? ⟨w.heap.size, 2, none⟩ = some (.int .i64 bl) := by rw [R1.cell]; rfl
  clear hW1 R1
  obtain ⟨c, hc⟩ : ∃ c, c = w.heap.size := ⟨_, rfl⟩
  rw [← hc] at c0 c1 c2 ⊢
  clear hc
  refine J0.out _ _ (wp_seq_k (fun K1 k1 => ?_))
  have J1 := Lib.hid k1
  clear k1
  go_wp2_with (fail)
  refine (sSize k s bl W1).mono ?_
  rintro e W2 ⟨rfl, h2⟩
  have T2 : Hid (Tch [] w W2) := T1.out.trans h2.out
  have d0 := h2.out.cell c0 (by simp)
  have d1 := h2.out.cell c1 (by simp)
  have d2 := h2.out.cell c2 (by simp)
  obtain ⟨z1, z2⟩ := szK_bd k s bl
  generalize szK k s bl = Z at z1 z2 ⊢
  have z3 : ¬ ((Z : Int) = 0) := by omega
  have z4 : (((Z : Int)) == 0) = false := by simpa using z3
  have z5 : (1 : Int) ≤ Z := by omega
  clear h2 c0 c1 c2 z1 z3
  go_wp2
  refine J1.out _ _ ?_
  generalize wrap64 (wrap64 (n.tdiv (Z : Int)) + 1) = q
  clear z2 z4 z5
  by_cases hq : 20000 < wrap64 (q * r)
  · go_wp2
    go_ret
    exact ⟨_, rfl, T2.out⟩
  · go_wp2_with (fail)
    refine (sBlock k s bl W2).mono ?_
    rintro e W3 ⟨rfl, h3⟩
    have T3 : Hid (Tch [] w W3) := T2.out.trans h3.out
    clear h3 d0 d1 d2 hq
    by_cases hb : 1048576 < wrap64 (q * wrap64 (by' + (blK k s bl : Int)))
    · go_wp2
      go_ret
      exact ⟨_, rfl, T3.out⟩
    · go_wp2
      go_ret
      exact ⟨_, rfl, T3.out⟩
end Go.Proofs.Ytgomodhhomekpaa
