/-
  A text's bytes as a slice of their own; the front of a row.
-/
import Derived.Test.YtgomodhhomekpaaM6
import Derived.Lib.ConvBytes
namespace Go.Proofs.Ytgomodhhomekpaa
open Go.RowKit Pu Ar
/-- What the conversion of a text to bytes leaves. -/
theorem by_of_str (w : World) (s : ByteArray) (hs : s.size ≤ 140737488355328) :
    ∃ W c, (convert 9 24 (.string s)).run Try.prog w = .ok (.slice (some ⟨w.heap.size, 0, none⟩) s.size c) W ∧ Hid (Tch [] w W ∧ Rd W (.slice (some ⟨w.heap.size, 0, none⟩) s.size c) s.data.toList) := by
  obtain ⟨i, hi, hz0, hz1, hz2⟩ := info_parts infoByte
  have hr := Lib.run_convert_string_bytes (P := Try.prog) w 9 24 5 s Try.underlying9 Try.underlying24 Try.underlying5
  have hsz : s.data.toList.length = s.size := by show s.data.toList.length = s.data.size; exact Array.length_toList
  refine ⟨_, _, hr, ⟨rfl, rfl, rfl, ?_, ?_⟩, ?_⟩
  · rw [Lib.bytesWorld_size]; omega
  · intro k hk _; exact Lib.bytesWorld_at_old w 5 s k hk
  · have hge := grownCap_ge w s.size 0 5
    have hcm := grownCap_le_maxLen w s.size 0 5 (by unfold maxLen; omega)
    refine ⟨some ⟨w.heap.size, 0, none⟩, _, by rw [hsz], by rw [hsz]; exact hge, hcm, .inr ⟨w.heap.size, 0, rfl, fun i x hx => ?_⟩⟩
    have hi : i < s.size := by
      rw [← hsz]
      rcases Nat.lt_or_ge i s.data.toList.length with h | h
      · exact h
      · rw [List.getElem?_eq_none h] at hx; cases hx
    rw [Nat.zero_add, Lib.bytesWorld_cell w 5 s i hi, List.getD_eq_getElem?_getD, hx]; rfl
/-- v[:0] of a row of the call's own. -/
theorem Own.zero {w : World} {v : Value} {l : By} (h : Own w v l) : Own w (upto v 0) [] ∧ (upto v 0).ownBlock = v.ownBlock ∧ ∀ w, (Instr.slice 24 v none (some (.int .i64 0)) none).run Try.prog w = .ok (upto v 0) w := by
  have hrun : ∀ w, (Instr.slice 24 v none (some (.int .i64 ((0 : Nat) : Int))) none).run Try.prog w = .ok (upto v 0) w := by
    obtain ⟨p, c, hv⟩ := own_ex h
    exact fun w => run_upto w v l.length c 0 p hv h.nm (Nat.zero_le _)
  rcases h.2 with ⟨rfl, _⟩ | ⟨g, cap, cur, rfl, hb, hg, r⟩
  · exact ⟨Own.nil w, rfl, hrun⟩
  · refine ⟨⟨by simp, .inr ⟨g, cap, cur, rfl, hb, hg, ?_⟩⟩, rfl, hrun⟩
    obtain ⟨r1, r2, r3, r4⟩ := r
    exact ⟨Nat.zero_le _, r2, r3, by simp⟩
end Go.Proofs.Ytgomodhhomekpaa
