/-
  A row of slices of bytes that grows.
-/
import Derived.Test.YtgomodhhomekpaaM6
namespace Go.Proofs.Ytgomodhhomekpaa
open Go.RowKit Pu Ar
theorem infoBytes : (Try.prog.info? 24).map (fun i => (i.zero, i.size, i.bytes)) = some (some (.slice none 0 0), 1, 24) := by kernel_rfl
/-- The slice v is a row of the call's own, and holds the slices vs. -/
def OwnS (w : World) (v : Value) (vs : List Value) : Prop := w.ownsRow 0 24 1 v vs.length vs
theorem OwnS.nil (w : World) : OwnS w (.slice none 0 0) [] := World.ownsRow_nil _ _ _ _
theorem OwnS.tch {S : List Nat} {w w' : World} {v : Value} {vs : List Value} (h : OwnS w v vs) (k : Tch S w w') (hn : Off S v) : OwnS w' v vs := by
  refine ⟨h.1, ?_⟩
  rcases h.2 with h | ⟨g, cap, cur, rfl, hb, hg, r⟩
  · exact .inl h
  · exact .inr ⟨g, cap, cur, rfl, hb, k.same hg (hn g rfl), r⟩
theorem OwnS.lt {w : World} {v : Value} {vs : List Value} (h : OwnS w v vs) : ∀ b, v.ownBlock = some b → b < w.heap.size := fun b hb => (World.ownsRow.lt h b hb).2
theorem OwnS.shape {w : World} {v : Value} {vs : List Value} (h : OwnS w v vs) (h0 : vs ≠ []) : ∃ g cap, v = .slice (some ⟨g, 0, none⟩) vs.length cap ∧ ∀ (i : Nat) (u : Value), vs[i]? = some u → w.cell? ⟨g, i, none⟩ = some u := by
  rcases id h.2 with ⟨_, h1⟩ | ⟨g, cap, cur, rfl, _⟩
  · exact absurd (List.eq_nil_of_length_eq_zero h1) h0
  · refine ⟨g, cap, rfl, fun i u hu => ?_⟩
    have := World.ownsRow.cells (h : w.ownsRow 0 24 1 _ vs.length vs) (g := g) rfl i u hu
    rw [add_lit', Nat.zero_add] at this
    exact this
theorem run_append_vs (w : World) (ty : TypeId) (v x : Value) (vs : List Value) (b : Nat) (hx : w.cell? ⟨b, 0, none⟩ = some x) (h1 : x.oneCell' = true) (hown : OwnS w v vs) (hsz : vs.length ≤ 1000000) :
    ∃ v' w', (Builtin.append_ #[28, 28] ty #[v, .slice (some ⟨b, 0, none⟩) 1 1]).run Try.prog w = .ok v' w' ∧ OwnS w' v' (vs ++ [x]) ∧ Tch v.ownBlock.toList w w' ∧ (v'.ownBlock = v.ownBlock ∨ ∃ g, v'.ownBlock = some g ∧ w.heap.size ≤ g) := by
  obtain ⟨i, hi, hz0, hz1, hz2⟩ := info_parts infoBytes
  have ht : Try.prog.underlying 28 = some (.slice 24) := Try.underlying28
  have hnews : ∀ j u, [x][j]? = some u → w.cell? ((⟨b, 0, none⟩ : Addr).add j) = some u := by
    intro j u hu
    match j with
    | 0 => simp at hu; subst hu; rw [add_lit']; exact hx
    | j + 1 => simp at hu
  have h1s : ∀ u ∈ [x], u.oneCell' = true := by intro u hu; rw [List.mem_singleton.1 hu]; exact h1
  have fin : ∀ v' w' base, w'.ownsRow base 24 1 v' (vs.length + 1) (vs ++ [x]) → OwnS w' v' (vs ++ [x]) := by
    intro v' w' base h
    unfold OwnS
    rw [List.length_append]
    refine ⟨h.1, ?_⟩
    rcases h.2 with h | ⟨g, cp, cr, e, hb, r⟩
    · exact .inl h
    · exact .inr ⟨g, cp, cr, e, Nat.zero_le _, r⟩
  rcases id hown.2 with ⟨rfl, hx0⟩ | ⟨g, scap, cur, rfl, hb, hg, hc, hm, hs, htk⟩
  · have hv : vs = [] := List.eq_nil_of_length_eq_zero hx0
    subst hv
    obtain ⟨v', w', hr, k1, k2, k3⟩ := run_append_own (P := Try.prog) w w.heap.size 28 ty 24 i _ 1 24 ht hi hz0 hz1 hz2 rfl (by decide) (.slice none 0 0) 0 [] (World.ownsRow_nil _ _ _ _) ⟨b, 0, none⟩ 1 1 [x] rfl hnews h1s (by unfold maxLen; omega) (by omega) (Nat.le_refl _)
    refine ⟨v', w', hr, fin v' w' _ k1, Tch.grown k2, ?_⟩
    right
    rcases k1.2 with h | ⟨g, cp, cr, e, hb, r⟩
    · exact absurd h.2 (by omega)
    · exact ⟨g, by rw [e]; rfl, hb⟩
  · obtain ⟨v', w', hr, k1, k2, _⟩ := run_append_own (P := Try.prog) w 0 28 ty 24 i _ 1 24 ht hi hz0 hz1 hz2 rfl (by decide) _ vs.length vs hown ⟨b, 0, none⟩ 1 1 [x] rfl hnews h1s (by unfold maxLen; omega) (by omega) (Nat.zero_le _)
    refine ⟨v', w', hr, fin v' w' _ k1, Tch.grown k2, ?_⟩
    by_cases hroom : vs.length + 1 ≤ scap
    · have hr2 := run_append_room (P := Try.prog) w 28 ty 24 i ht hi g vs.length scap cur hg ⟨b, 0, none⟩ 1 1 [x] (by simp [hz1]) hnews h1s hroom (by rw [hz1, hs]; simp; omega)
      rw [hr2] at hr
      simp only [Result.ok.injEq] at hr
      obtain ⟨rfl, _⟩ := hr
      exact .inl rfl
    · have holds : ∀ j u, vs[j]? = some u → w.cell? ((⟨g, 0, none⟩ : Addr).add j) = some u := World.ownsRow.cells hown rfl
      have hr2 := run_append_grow (P := Try.prog) w 28 ty 24 i _ ht hi hz0 ⟨g, 0, none⟩ vs.length scap vs (by simp [hz1]) holds ⟨b, 0, none⟩ 1 1 [x] (by simp [hz1]) hnews (by omega) (by omega)
        (growslice_fits (by omega) (by rw [hz2]; omega))
      rw [hr2] at hr
      simp only [Result.ok.injEq] at hr
      obtain ⟨rfl, _⟩ := hr
      exact .inr ⟨_, rfl, Nat.le_refl _⟩
theorem wpList_append_vs {w : World} {ops : Array Oper} {rest : List Oper} {o : Oper} {a : Act} {Q : Exit → Act → World → Prop} (hgd : o.guard = none) (s y : Operand)
    (ho : o.op = .call { callee := .builtin .append, args := #[s, y], argTypes := #[28, 28] }) (v x : Value) (vs : List Value) (b : Nat) (hs : a.eval s = v) (hy : a.eval y = .slice (some ⟨b, 0, none⟩) 1 1)
    (hx : w.cell? ⟨b, 0, none⟩ = some x) (h1 : x.oneCell' = true) (hown : OwnS w v vs) (hsz : vs.length ≤ 1000000)
    (h : ∀ v' w', Hid (OwnS w' v' (vs ++ [x]) ∧ Tch v.ownBlock.toList w w' ∧ (v'.ownBlock = v.ownBlock ∨ ∃ g, v'.ownBlock = some g ∧ w.heap.size ≤ g)) →
      wpList Try.prog ops Q rest (a.put o.dst v') w') : wpList Try.prog ops Q (o :: rest) a w := by
  obtain ⟨v', w', hr, h2⟩ := run_append_vs w o.type v x vs b hx h1 hown hsz
  refine wpList_plain hgd fun _ hK => ?_
  unfold Oper.wp execOp
  simp only [ho, resolve, invoke, builtin, Sem.run_bind, Sem.run_pure, Result.andThen_ok, List.map_toArray, List.map_cons, List.map_nil, hs, hy, hr]
  exact hK _ _ (h v' w' h2)
end Go.Proofs.Ytgomodhhomekpaa
