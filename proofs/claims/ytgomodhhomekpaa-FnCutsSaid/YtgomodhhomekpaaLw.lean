/-
  append, copy and make over bytes: what they leave, told by Row, Rd, Tch.
-/
import Derived.Test.YtgomodhhomekpaaWd
import Derived.Laws.CopyOwn
namespace Go.Proofs.Ytgomodhhomekpaa
open Go.RowKit Pu Ar

theorem infoByte : (Try.prog.info? 5).map (fun i => (i.zero, i.size, i.bytes)) = some (some (.int .u8 0), 1, 1) := by kernel_rfl
theorem vb_one (x : UInt8) : (vb x).oneCell' = true := rfl
theorem vbs_one (l : By) : ∀ u ∈ l.map vb, u.oneCell' = true := by
  intro u hu; obtain ⟨x, _, rfl⟩ := List.mem_map.1 hu; rfl

theorem add_lit' (b o j : Nat) : (⟨b, o, none⟩ : Addr).add j = ⟨b, o + j, none⟩ := by unfold Addr.add; split <;> simp_all
/-- The slice v is a row of the call's own, from its head on, and holds the bytes l. -/
def Own (w : World) (v : Value) (l : By) : Prop := w.ownsRow 0 5 1 v l.length (l.map vb)
theorem Own.nil (w : World) : Own w (.slice none 0 0) [] := World.ownsRow_nil _ _ _ _
theorem Own.tch {S : List Nat} {w w' : World} {v : Value} {l : By} (h : Own w v l) (k : Tch S w w') (hn : Off S v) : Own w' v l := by
  refine ⟨h.1, ?_⟩
  rcases h.2 with h | ⟨g, cap, cur, rfl, hb, hg, r⟩
  · exact .inl h
  · exact .inr ⟨g, cap, cur, rfl, hb, k.same hg (hn g rfl), r⟩
theorem Own.lt {w : World} {v : Value} {l : By} (h : Own w v l) : ∀ b, v.ownBlock = some b → b < w.heap.size := fun b hb => (World.ownsRow.lt h b hb).2
/-- It reads as what it holds. -/
theorem Own.rd {w : World} {v : Value} {l : By} (h : Own w v l) : Rd w v l := by
  rcases h.2 with ⟨rfl, h0⟩ | ⟨g, cap, cur, rfl, hb, hg, hc, hm, hs, ht⟩
  · have : l = [] := List.eq_nil_of_length_eq_zero h0
    subst this; exact Rd.nil w
  · refine ⟨some ⟨g, 0, none⟩, cap, rfl, hc, hm, .inr ⟨g, 0, rfl, fun i x hx => ?_⟩⟩
    have := World.ownsRow.cells (h : w.ownsRow 0 5 1 _ l.length (l.map vb)) (g := g) rfl i (vb x) (by rw [List.getElem?_map, hx]; rfl)
    rwa [add_lit'] at this
theorem Own.off {w : World} {v : Value} {l : By} (h : Own w v l) {S : List Nat} (hS : ∀ b ∈ S, w.heap.size ≤ b) : Off S v := by
  intro b hb hm
  have := h.lt b hb
  have := hS b hm
  omega

theorem Rd.news {w : World} {p : Option Addr} {cap : Nat} {l : By} (h : Rd w (.slice p l.length cap) l) (h0 : l ≠ []) : ∃ ad, p = some ad ∧ ∀ j u, (l.map vb)[j]? = some u → w.cell? (ad.add j) = some u := by
  obtain ⟨p', cap', hv, _, _, h⟩ := h
  simp only [Value.slice.injEq] at hv
  obtain ⟨rfl, _, rfl⟩ := hv
  rcases h with h | ⟨b, o, rfl, h⟩
  · exact absurd h h0
  · refine ⟨_, rfl, fun j u hu => ?_⟩
    rw [List.getElem?_map] at hu
    cases hx : l[j]? with
    | none => simp [hx] at hu
    | some x =>
      simp [hx] at hu
      subst hu
      rw [add_lit']
      exact h j x hx

theorem run_append_by (w : World) (ty : TypeId) (v u : Value) (xs ys : By) (hown : Own w v xs) (hy : Rd w u ys) (hsz : xs.length + ys.length ≤ 140737488355328) :
    ∃ v' w', (Builtin.append_ #[24, 24] ty #[v, u]).run Try.prog w = .ok v' w' ∧ Own w' v' (xs ++ ys) ∧ Tch v.ownBlock.toList w w' ∧
      (v' = .slice none 0 0 ↔ v = .slice none 0 0 ∧ ys = []) ∧ (v'.ownBlock = v.ownBlock ∨ ∃ g, v'.ownBlock = some g ∧ w.heap.size ≤ g) := by
  obtain ⟨i, hi, hz0, hz1, hz2⟩ := info_parts infoByte
  have ht : Try.prog.underlying 24 = some (.slice 5) := Try.underlying24
  obtain ⟨p, cap, rfl, hcap, hmax, hrd⟩ := hy
  have hy : Rd w (.slice p ys.length cap) ys := ⟨p, cap, rfl, hcap, hmax, hrd⟩
  have fin : ∀ v' w', w'.ownsRow 0 5 1 v' (xs.length + ys.length) (xs.map vb ++ ys.map vb) → Own w' v' (xs ++ ys) := by
    intro v' w' h
    unfold Own
    rw [List.length_append, List.map_append]; exact h
  by_cases h0 : ys = []
  · subst h0
    have hv : ∃ base n cp, v = .slice base n cp ∧ n ≤ cp := by
      rcases hown.2 with ⟨rfl, _⟩ | ⟨g, cp, cur, rfl, _, _, hc, _⟩
      · exact ⟨_, _, _, rfl, Nat.le_refl _⟩
      · exact ⟨_, _, _, rfl, hc⟩
    obtain ⟨base, n, cp, rfl, hn⟩ := hv
    refine ⟨.slice base n cp, w, ?_, by simpa using hown, Tch.refl _ _, by simp, .inl rfl⟩
    cases p <;> cases base <;> simp [Builtin.append_, run_underlying ht, sizeOf, typeInfo, hi, Builtin.lenOf, Builtin.firstCells, loadCells, loadCellsFrom, storeCells, hn]
  · obtain ⟨ad, rfl, hnews⟩ := hy.news h0
    have hpos : 0 < ys.length := List.length_pos_iff.2 h0
    have hown' : w.ownsRow 0 5 1 v xs.length (xs.map vb) := hown
    rcases hown.2 with ⟨rfl, hx0⟩ | ⟨g, scap, cur, rfl, hb, hg, hc, hm, hs, htk⟩
    · have hx : xs = [] := List.eq_nil_of_length_eq_zero hx0
      subst hx
      obtain ⟨v', w', hr, h1, h2, h3⟩ := run_append_own (P := Try.prog) w w.heap.size 24 ty 5 i _ 1 1 ht hi hz0 hz1 hz2 rfl (by decide) (.slice none 0 0) 0 [] (World.ownsRow_nil _ _ _ _) ad ys.length cap (ys.map vb)
        (by simp) hnews (vbs_one ys) (by unfold maxLen at *; omega) (by simpa using hsz) (Nat.le_refl _)
      refine ⟨v', w', hr, fin v' w' ?_, Tch.grown h2, ?_, ?_⟩
      · refine ⟨by simp, ?_⟩
        rcases h1.2 with h | ⟨g, cp, cr, e, hb, r⟩
        · exact .inl (by simpa using h)
        · exact .inr ⟨g, cp, cr, by simpa using e, Nat.zero_le _, by simpa using r⟩
      · rw [h3]; simp
      · right
        rcases h1.2 with h | ⟨g, cp, cr, e, hb, r⟩
        · exact absurd h.2 (by simp; omega)
        · exact ⟨g, by rw [e]; rfl, hb⟩
    · by_cases hroom : xs.length + ys.length ≤ scap
      · have hfit : xs.length * i.size + (ys.map vb).length ≤ cur.size := by rw [hz1, List.length_map, hs]; omega
        have hr := run_append_room (P := Try.prog) w 24 ty 5 i ht hi g xs.length scap cur hg ad ys.length cap (ys.map vb) (by simp [hz1]) hnews (vbs_one ys) hroom hfit
        refine ⟨_, _, hr, fin _ _ ⟨by simp, .inr ⟨g, scap, _, rfl, Nat.zero_le _, setRow_heap w g cur _ _ _ hg, hroom, hm, ?_, ?_⟩⟩, Tch.setRow _ _ _ (by simp [Value.ownBlock]), by simp, .inl rfl⟩
        · simp only [List.size_toArray, List.length_append, List.length_take, List.length_drop, Array.length_toList, hz1, List.length_map]
          omega
        · have e1 : cur.toList.take (xs.length * 1) = xs.map vb := htk
          simp only [hz1]
          rw [e1, show (xs.length + ys.length) * 1 = (xs.map vb ++ ys.map vb).length by simp]
          exact List.take_left
      · have holds : ∀ j u, (xs.map vb)[j]? = some u → w.cell? ((⟨g, 0, none⟩ : Addr).add j) = some u := World.ownsRow.cells hown' rfl
        have hr := run_append_grow (P := Try.prog) w 24 ty 5 i _ ht hi hz0 ⟨g, 0, none⟩ xs.length scap (xs.map vb) (by simp [hz1]) holds ad ys.length cap (ys.map vb) (by simp [hz1]) hnews (by omega) (by omega)
          (growslice_fits (by omega) (by rw [hz2]; omega))
        have hge := grownCap_ge w (xs.length + ys.length) scap 5
        have hcm : grownCap w (xs.length + ys.length) scap 5 ≤ maxLen := grownCap_le_maxLen w _ scap 5 (by unfold maxLen; omega)
        refine ⟨_, _, hr, fin _ _ ⟨by simp, .inr ⟨w.heap.size, _, _, rfl, Nat.zero_le _, heap_alloc_new w.drew _, hge, hcm, ?_, ?_⟩⟩, (Tch.drewN w 1).trans (Tch.alloc _ _), by simp, .inr ⟨_, rfl, Nat.le_refl _⟩⟩
        · simp only [Array.size_append, List.size_toArray, size_zeroCells, List.length_map]
          rw [show (Value.int .u8 0).cells.size = 1 from rfl]
          omega
        · simp only [Array.toList_append, List.append_assoc]
          rw [← List.append_assoc, show (xs.length + ys.length) * 1 = (xs.map vb ++ ys.map vb).length by simp]
          exact List.take_left

theorem wpList_append_by {w : World} {ops : Array Oper} {rest : List Oper} {o : Oper} {a : Act} {Q : Exit → Act → World → Prop} (hgd : o.guard = none) (s x : Operand)
    (ho : o.op = .call { callee := .builtin .append, args := #[s, x], argTypes := #[24, 24] }) (v u : Value) (xs ys : By) (hs : a.eval s = v) (hx : a.eval x = u)
    (hown : Own w v xs) (hy : Rd w u ys) (hsz : xs.length + ys.length ≤ 140737488355328)
    (h : ∀ v' w', Hid (Own w' v' (xs ++ ys) ∧ Tch v.ownBlock.toList w w' ∧ (v' = .slice none 0 0 ↔ v = .slice none 0 0 ∧ ys = []) ∧ (v'.ownBlock = v.ownBlock ∨ ∃ g, v'.ownBlock = some g ∧ w.heap.size ≤ g)) →
      wpList Try.prog ops Q rest (a.put o.dst v') w') : wpList Try.prog ops Q (o :: rest) a w := by
  obtain ⟨v', w', hr, h1⟩ := run_append_by w o.type v u xs ys hown hy hsz
  refine wpList_plain hgd fun _ hK => ?_
  unfold Oper.wp execOp
  simp only [ho, resolve, invoke, builtin, Sem.run_bind, Sem.run_pure, Result.andThen_ok, List.map_toArray, List.map_cons, List.map_nil, hs, hx, hr]
  exact hK _ _ (h v' w' h1)

/-- copy: as many bytes as the shorter of the two has. -/
theorem wpList_copy_by {w : World} {ops : Array Oper} {rest : List Oper} {o : Oper} {a : Act} {Q : Exit → Act → World → Prop} (hgd : o.guard = none) (d s : Operand)
    (ho : o.op = .call { callee := .builtin .copy, args := #[d, s], argTypes := #[24, 24] }) (g off dLen dCap : Nat) (u : Value) (l : By) (t : TypeId) (cur : List Value) (k : Nat) (hk : k = min l.length dLen)
    (hd : a.eval d = .slice (some ⟨g, off, none⟩) dLen dCap) (hs : a.eval s = u) (hl : Rd w u l) (hg : Row w g t cur) (hfit : off + dLen ≤ cur.length)
    (h : ∀ w', Hid (Row w' g t (cur.take off ++ ((l.take k).map vb ++ cur.drop (off + k))) ∧ Tch [g] w w') → wpList Try.prog ops Q rest (a.put o.dst (.int .i64 (k : Int))) w') :
    wpList Try.prog ops Q (o :: rest) a w := by
  have hu : Try.prog.underlying 24 = some (.slice 5) := Try.underlying24
  have hsz : (Try.prog.info? 5).map (·.size) = some 1 := by kernel_rfl
  obtain ⟨p, cap, rfl, hcap, hmax, hrd⟩ := hl
  have hl : Rd w (.slice p l.length cap) l := ⟨p, cap, rfl, hcap, hmax, hrd⟩
  have hkl : (l.take k).length = k := by rw [List.length_take]; omega
  by_cases h0 : k = 0
  · refine wpList_copy_nothing hgd d s _ _ ho _ hu hsz _ _ _ _ _ _ hd hs (show min l.length dLen = 0 by omega) ?_
    have := h w ⟨by rw [h0]; simpa using hg, Tch.refl _ _⟩
    rw [h0] at this
    exact this
  · obtain ⟨ad, rfl, hnews⟩ := hl.news (by intro e; rw [e] at hk; simp at hk; omega)
    have hlen : ((l.take k).map vb).length = Nat.min l.length dLen := by rw [List.length_map, hkl]; exact hk
    refine wpList_copy_own hgd d s _ _ ho _ hu hsz g off dLen dCap ad l.length cap hd hs cur.toArray t hg ((l.take k).map vb) hlen ?_ (by rw [List.length_map, hkl]; simp only [List.size_toArray]; omega) (vbs_one _) ?_
    · intro j v hv
      refine hnews j v ?_
      rw [List.getElem?_map] at hv ⊢
      rw [List.getElem?_take] at hv
      split at hv
      · exact hv
      · simp at hv
    · rw [List.length_map, hkl]
      refine h _ ⟨?_, Tch.setRow _ _ _ (by simp)⟩
      unfold Row
      rw [setRow_heap w g _ _ t _ hg]
end Go.Proofs.Ytgomodhhomekpaa
