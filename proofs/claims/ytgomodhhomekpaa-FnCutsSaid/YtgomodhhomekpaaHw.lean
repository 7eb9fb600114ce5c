/-
  HMAC.Write.
-/
import Derived.Test.YtgomodhhomekpaaHi
import Derived.Test.YtgomodhhomekpaaQt
import Derived.Handy
namespace Go.Proofs.Ytgomodhhomekpaa
open Go.RowKit Pu Ar
/-- An HMAC, its fields, in block m. -/
def hmCells (hk : Pu.HK) (ov iv : Value) (bo bi : Nat) (mar kdf : Bool) (n : Int) : List Value :=
  [ov, iv, .iface (hT hk) (.pointer (some ⟨bo, 0, none⟩)), .iface (hT hk) (.pointer (some ⟨bi, 0, none⟩)), .bool mar, .bool kdf, .int .i64 n]
set_option maxRecDepth 100000 in
theorem hmWrite (hk : Pu.HK) (m bi si : Nat) (ov iv : Value) (bo : Nat) (mar kdf : Bool) (n : Int) (l p : By) (v : Value) (w : World) (hm : Row w m 95 (hmCells hk ov iv bo bi mar kdf n))
    (hi : HIs w hk bi si l) (hv : Rd w v p) (hn : Nm v) (hoff : Off [bi, si] v) (hlen : (l ++ p).length ≤ 1099511627776) :
    Calls Try.prog 44 #[.pointer (some ⟨m, 0, none⟩), v] w fun e w' => e = .returned (.tuple #[.int .i64 p.length, .nilIface]) ∧ Hid (HIs w' hk bi si (l ++ p) ∧ Tch [bi, si] w w') := by
  have c3 : w.cell? ⟨m, 3, none⟩ = some (.iface (hT hk) (.pointer (some ⟨bi, 0, none⟩))) := by rw [hm.cell]; rfl
  have HC := Lib.hid (hWrite hk bi si l p v w hi hv hn hoff hlen)
  clear hm hi hv hn hoff hlen
  have e1 := mWrite hk
  have e2 := cWrite hk
  go_enter Try.func44, Try.ntmps44
  go_wp2_with (fail)
  refine HC.out.mono ?_
  rintro e w' ⟨rfl, h⟩
  go_wp2
  go_ret2
  exact ⟨rfl, h.out⟩
theorem Own.shape {w : World} {v : Value} {l : By} (h : Own w v l) (h0 : l ≠ []) : ∃ g cap, v = .slice (some ⟨g, 0, none⟩) l.length cap ∧ l.length ≤ cap ∧ cap ≤ maxLen := by
  rcases h.2 with ⟨_, h1⟩ | ⟨g, cap, cur, h1, _, _, h2, h3, _⟩
  · exact absurd (List.length_eq_zero_iff.1 h1) h0
  · exact ⟨g, cap, h1, h2, h3⟩
/-- The front of a row of the call's own is one, too. -/
theorem Own.front {w : World} {g cap : Nat} {xs ys : By} (h : Own w (.slice (some ⟨g, 0, none⟩) (xs ++ ys).length cap) (xs ++ ys)) : Own w (.slice (some ⟨g, 0, none⟩) xs.length cap) xs := by
  refine ⟨by simp, ?_⟩
  rcases h.2 with ⟨h1, _⟩ | ⟨g', cap', cur, h1, hb, hg, h2, h3, h4, h5⟩
  · cases h1
  · simp only [Value.slice.injEq, Option.some.injEq, Addr.mk.injEq] at h1
    obtain ⟨⟨rfl, -, -⟩, -, rfl⟩ := h1
    refine .inr ⟨g, cap, cur, rfl, hb, hg, by rw [List.length_append] at h2; omega, h3, h4, ?_⟩
    have e : xs.length * 1 = min (xs.length * 1) ((xs ++ ys).length * 1) := by rw [List.length_append]; omega
    rw [e, ← List.take_take, h5, List.map_append, Nat.mul_one]
    exact List.take_left' (by simp)
end Go.Proofs.Ytgomodhhomekpaa
