/-
  copied; Sum of the thin package.
-/
import Derived.Test.YtgomodhhomekpaaOs2
import Derived.Test.YtgomodhhomekpaaOf
namespace Go.Proofs.Ytgomodhhomekpaa
open Go.RowKit Pu Ar
set_option maxRecDepth 100000 in
theorem iCopied (v : Value) (l : By) (w : World) (hv : Rd w v l) (hsz : l.length ≤ 140737488355328) :
    Calls Try.prog 45 #[v] w fun e w' => ∃ v', e = .returned v' ∧ Hid (Grew w w' (.slice none 0 0) v' l ∧ (v' = .slice none 0 0 ↔ l = [])) := by
  have HV := Lib.hid hv
  have HS := Lib.hid hsz
  clear hv hsz
  go_enter Try.func45, Try.ntmps45
  go_wp2_with (refine wpList_append_by rfl _ _ rfl (.slice none 0 0) v [] l rfl rfl (Own.nil w) HV.out (by have := HS.out; simp only [List.length_nil]; omega) ?_)
  intro v' w' h5
  go_wp2
  go_ret
  obtain ⟨o1, o2, o3, o4⟩ := h5.out
  exact ⟨v', rfl, ⟨o1, o2, o4⟩, by simpa using o3⟩
theorem ownState_nil (size : Nat) : ownState size [] = ownInit size := rfl
theorem Grew.tchNil {w w' : World} {v' : Value} {l : By} (h : Grew w w' (.slice none 0 0) v' l) : Tch [] w w' := h.2.1
theorem Grew.fresh {w w' : World} {v' : Value} {l : By} (h : Grew w w' (.slice none 0 0) v' l) {S : List Nat} (hS : ∀ b ∈ S, b < w.heap.size) : Off S v' := by
  intro b hb hm
  rcases h.2.2 with h3 | ⟨g, h3, hg⟩
  · rw [h3] at hb; cases hb
  · rw [h3] at hb; simp only [Option.some.injEq] at hb; subst hb; have := hS _ hm; omega
theorem bad_kind (kt : List UInt32) (k s bl : Int) (hk : k ≠ 1) : kindOf kt k s bl = .own (szOf s bl) (blOf s bl) := by
  unfold kindOf szOf blOf bad
  rw [if_neg hk]
  by_cases h : s < 1 ∨ 16 < s ∨ bl < s ∨ 32 < bl
  · rw [if_pos h, decide_eq_true h]; rfl
  · rw [if_neg h, decide_eq_false h]; rfl
theorem kind_sha (kt : List UInt32) (s bl : Int) : kindOf kt 1 s bl = .sha kt := rfl
end Go.Proofs.Ytgomodhhomekpaa
