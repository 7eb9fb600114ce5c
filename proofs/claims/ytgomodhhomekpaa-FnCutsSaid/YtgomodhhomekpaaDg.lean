/-
  A digest's cells: what a store into each of its fields leaves.
-/
import Derived.Test.YtgomodhhomekpaaLw
import Derived.Test.YtgomodhhomekpaaBg
namespace Go.Proofs.Ytgomodhhomekpaa
open Go.RowKit Pu Ar
def lay (x : By) (nx : Nat) (p : By) : By := x.take nx ++ (p ++ x.drop (nx + p.length))
theorem lay_length (x : By) (nx : Nat) (p : By) (h : nx + p.length ≤ x.length) : (lay x nx p).length = x.length := by simp [lay]; omega
theorem digCells_length (s : S8) (x : By) (nx ln : Nat) : (digCells s x nx ln).length = 8 + x.length + 3 := by simp [digCells]; omega
theorem digCells_nx (s : S8) (x : By) (nx ln m : Nat) (hx : x.length = 64) : (digCells s x nx ln).set 72 (.int .i64 m) = digCells s x m ln := by
  unfold digCells
  rw [List.set_append_right _ _ (by simp [hx])]
  simp [hx]
theorem digCells_ln (s : S8) (x : By) (nx ln m : Nat) (hx : x.length = 64) : (digCells s x nx ln).set 73 (.int .u64 m) = digCells s x nx m := by
  unfold digCells
  rw [List.set_append_right _ _ (by simp [hx])]
  simp [hx]
theorem digCells_at (s : S8) (x : By) (nx ln : Nat) (hx : x.length = 64) :
    (digCells s x nx ln)[72]? = some (.int .i64 nx) ∧ (digCells s x nx ln)[73]? = some (.int .u64 ln) ∧ (digCells s x nx ln)[74]? = some (.bool false) := by
  unfold digCells
  refine ⟨?_, ?_, ?_⟩ <;> (rw [List.getElem?_append_right (by simp [hx])]; simp [hx])
theorem digCells_lay (s : S8) (x : By) (nx ln : Nat) (p : By) (h : nx + p.length ≤ x.length) :
    (digCells s x nx ln).take (8 + nx) ++ (p.map vb ++ (digCells s x nx ln).drop (8 + nx + p.length)) = digCells s (lay x nx p) nx ln := by
  unfold digCells lay
  have e8 : ([vw s.a, vw s.b, vw s.c, vw s.d, vw s.e, vw s.f, vw s.g, vw s.h] : List Value).length = 8 := rfl
  generalize ([vw s.a, vw s.b, vw s.c, vw s.d, vw s.e, vw s.f, vw s.g, vw s.h] : List Value) = H at e8 ⊢
  generalize ([.int .i64 (nx : Int), .int .u64 (ln : Int), .bool false] : List Value) = T
  rw [List.append_assoc, List.take_append, List.drop_append, e8]
  rw [List.take_of_length_le (l := H) (by omega), List.drop_of_length_le (l := H) (by omega), List.nil_append]
  rw [show 8 + nx - 8 = nx by omega, show 8 + nx + p.length - 8 = nx + p.length by omega]
  rw [List.take_append_of_le_length (by simp; omega), List.drop_append_of_le_length (by simp; omega)]
  simp [List.map_take, List.map_drop]

/-- A digest in block b. -/
structure Dig (w : World) (b : Nat) (s : S8) (x : By) (nx ln : Nat) : Prop where
  row : Row w b 104 (digCells s x nx ln)
  len : x.length = 64
theorem Dig.tch {S : List Nat} {w w' : World} {b : Nat} {s : S8} {x : By} {nx ln : Nat} (h : Dig w b s x nx ln) (k : Tch S w w') (hn : b ∉ S) : Dig w' b s x nx ln := ⟨h.row.tch k hn, h.len⟩
theorem Dig.nx {w : World} {b : Nat} {s : S8} {x : By} {nx ln : Nat} (h : Dig w b s x nx ln) : w.cell? ⟨b, 72, none⟩ = some (.int .i64 nx) := by rw [h.row.cell]; exact (digCells_at s x nx ln h.len).1
theorem Dig.ln {w : World} {b : Nat} {s : S8} {x : By} {nx ln : Nat} (h : Dig w b s x nx ln) : w.cell? ⟨b, 73, none⟩ = some (.int .u64 ln) := by rw [h.row.cell]; exact (digCells_at s x nx ln h.len).2.1
theorem Dig.is224 {w : World} {b : Nat} {s : S8} {x : By} {nx ln : Nat} (h : Dig w b s x nx ln) : w.cell? ⟨b, 74, none⟩ = some (.bool false) := by rw [h.row.cell]; exact (digCells_at s x nx ln h.len).2.2
theorem Dig.setNx {w : World} {b : Nat} {s : S8} {x : By} {nx ln : Nat} (h : Dig w b s x nx ln) (m : Nat) : Dig (w.setCell ⟨b, 72, none⟩ (.int .i64 m)) b s x m ln := by
  refine ⟨?_, h.len⟩
  have := h.row.set 72 (.int .i64 m)
  rwa [digCells_nx _ _ _ _ _ h.len] at this
theorem Dig.setLn {w : World} {b : Nat} {s : S8} {x : By} {nx ln : Nat} (h : Dig w b s x nx ln) (m : Nat) : Dig (w.setCell ⟨b, 73, none⟩ (.int .u64 m)) b s x nx m := by
  refine ⟨?_, h.len⟩
  have := h.row.set 73 (.int .u64 m)
  rwa [digCells_ln _ _ _ _ _ h.len] at this
/-- The bytes that are kept, as a slice of the digest's own array. -/
theorem Dig.rd {w : World} {b : Nat} {s : S8} {x : By} {nx ln : Nat} (h : Dig w b s x nx ln) : Rd w (.slice (some ⟨b, 8, none⟩) 64 64) x := by
  refine ⟨some ⟨b, 8, none⟩, 64, by rw [h.len], by rw [h.len]; omega, by unfold maxLen; omega, .inr ⟨b, 8, rfl, fun i y hy => ?_⟩⟩
  have hi : i < x.length := by
    rcases Nat.lt_or_ge i x.length with h | h
    · exact h
    · simp [List.getElem?_eq_none h] at hy
  rw [h.row.cell, digCells_x _ _ _ _ _ hi, List.getD_eq_getElem?_getD, hy]; rfl
theorem Rd.drop {w : World} {p : Option Addr} {cap : Nat} {l : By} (h : Rd w (.slice p l.length cap) l) (k : Nat) (hk : k ≤ l.length) :
    ∀ q, (k < cap → ∀ b o, p = some ⟨b, o, none⟩ → q = some ⟨b, o + k, none⟩) → Rd w (.slice q (l.length - k) (cap - k)) (l.drop k) := by
  intro q hq
  obtain ⟨p', cap', hv, hc, hm, hr⟩ := h
  simp only [Value.slice.injEq] at hv
  obtain ⟨rfl, _, rfl⟩ := hv
  refine ⟨q, cap - k, by rw [List.length_drop], by rw [List.length_drop]; omega, by omega, ?_⟩
  by_cases h0 : l.drop k = []
  · exact .inl h0
  · have hlt : k < l.length := by
      rcases Nat.lt_or_ge k l.length with h | h
      · exact h
      · exact absurd (List.drop_of_length_le h) h0
    rcases hr with hr | ⟨b, o, rfl, hr⟩
    · rw [hr] at hlt; simp at hlt
    · refine .inr ⟨b, o + k, hq (by omega) b o rfl, fun i x hx => ?_⟩
      rw [List.getElem?_drop] at hx
      rw [Nat.add_assoc]
      exact hr _ _ hx
theorem Rd.take {w : World} {p : Option Addr} {cap : Nat} {l : By} (h : Rd w (.slice p l.length cap) l) (k : Nat) (hk : k ≤ l.length) : Rd w (.slice p k cap) (l.take k) := by
  obtain ⟨p', cap', hv, hc, hm, hr⟩ := h
  simp only [Value.slice.injEq] at hv
  obtain ⟨rfl, _, rfl⟩ := hv
  refine ⟨p, cap, by rw [List.length_take, Nat.min_eq_left hk], by rw [List.length_take]; omega, hm, ?_⟩
  rcases hr with hr | ⟨b, o, rfl, hr⟩
  · left; rw [hr]; simp
  · refine .inr ⟨b, o, rfl, fun i x hx => ?_⟩
    rw [List.getElem?_take] at hx
    split at hx
    · exact hr _ _ hx
    · simp at hx

/-- The slice is nil, or begins at a cell. -/
def Nm (v : Value) : Prop := v = .slice none 0 0 ∨ ∃ b o n c, v = .slice (some ⟨b, o, none⟩) n c
theorem Own.nm {w : World} {v : Value} {l : By} (h : Own w v l) : Nm v := by
  rcases h.2 with ⟨rfl, _⟩ | ⟨g, cap, cur, rfl, _⟩
  · exact .inl rfl
  · exact .inr ⟨_, _, _, _, rfl⟩
/-- v[k:]. -/
def cut (v : Value) (k : Nat) : Value :=
  match v with
  | .slice (some ⟨b, o, t⟩) n c => .slice (some ⟨b, if c = k then o else o + k, t⟩) (n - k) (c - k)
  | .slice none n c => .slice none (n - k) (c - k)
  | v => v
theorem run_cut (w : World) (v : Value) (n cap k : Nat) (q : Option Addr) (hv : v = .slice q n cap) (hn : Nm v) (hk : k ≤ n) (hc : n ≤ cap) :
    (Instr.slice 24 v (some (.int .i64 (k : Int))) none none).run Try.prog w = .ok (cut v k) w := by
  have hu : Try.prog.underlying 24 = some (.slice 5) := Try.underlying24
  obtain ⟨i, hi, _, hz1, _⟩ := info_parts infoByte
  have h1 : (0 : Int) ≤ (k : Int) ∧ (k : Int) ≤ (n : Int) := by omega
  rcases hn with e | ⟨b, o, n', c', e⟩
  · rw [hv] at e
    simp only [Value.slice.injEq] at e
    obtain ⟨rfl, rfl, rfl⟩ := e
    obtain rfl : k = 0 := by omega
    subst hv
    simp [Instr.slice, run_underlying hu, Instr.sliceBounds, Instr.sliceBound, asIntOf, sizeOf, typeInfo, hi, cut]
  · rw [hv] at e
    simp only [Value.slice.injEq] at e
    obtain ⟨rfl, rfl, rfl⟩ := e
    subst hv
    by_cases hck : cap = k
    · subst hck
      simp [Instr.slice, run_underlying hu, Instr.sliceBounds, Instr.sliceBound, asIntOf, sizeOf, typeInfo, hi, cut]
      intro h; omega
    · simp [Instr.slice, run_underlying hu, Instr.sliceBounds, Instr.sliceBound, asIntOf, sizeOf, typeInfo, hi, cut, hck, hz1, add_lit']
      intro h; omega
theorem cut_rd {w : World} {v : Value} {l : By} (h : Rd w v l) (hn : Nm v) (k : Nat) (hk : k ≤ l.length) : Rd w (cut v k) (l.drop k) ∧ Nm (cut v k) ∧ ∀ S, Off S v → Off S (cut v k) := by
  obtain ⟨p, cap, hv, hc, hm, hr⟩ := h
  have h : Rd w (.slice p l.length cap) l := ⟨p, cap, rfl, hc, hm, hr⟩
  rcases hn with e | ⟨b, o, n, c, e⟩
  · rw [hv] at e
    simp only [Value.slice.injEq] at e
    obtain ⟨rfl, h0, rfl⟩ := e
    have hl : l = [] := List.eq_nil_of_length_eq_zero h0
    subst hl; subst hv
    have : k = 0 := by simpa using hk
    subst this
    exact ⟨by simpa [cut] using Rd.nil w, .inl rfl, fun S _ b hb => by simp [cut, Value.ownBlock] at hb⟩
  · rw [hv] at e
    simp only [Value.slice.injEq] at e
    obtain ⟨rfl, rfl, rfl⟩ := e
    subst hv
    refine ⟨h.drop k hk _ (fun hlt b' o' e => ?_), .inr ⟨_, _, _, _, rfl⟩, fun S hS b' hb => hS b' (by simpa [cut, Value.ownBlock] using hb)⟩
    simp only [Option.some.injEq, Addr.mk.injEq, and_true] at e
    rw [if_neg (by omega), e.1, e.2]

set_option maxRecDepth 100000 in
/-- block hands on. -/
theorem blockC (kt : List UInt32) (s : S8) (b : Nat) (x : By) (nx ln : Nat) (v : Value) (l : By) (w : World) (hK : KIs w kt) (hR : Dig w b s x nx ln) (hl : Rd w v l) :
    Calls Try.prog 105 #[.pointer (some ⟨b, 0, none⟩), v] w fun e w' => e = .returned (.tuple #[]) ∧ Hid (Dig w' b (blocks kt s l) x nx ln ∧ Tch [b] w w') := by
  have C := blockGeneric kt s b x nx ln v l w hK hR.row hl
  have HL := hR.len
  have H := Lib.hid C
  clear C hK hR hl
  go_enter Try.func105, Try.ntmps105
  go_wp2_with (go_at_call 112; refine H.out.mono ?_; rintro e w' ⟨rfl, h1, h2⟩)
  go_end0
  exact ⟨rfl, ⟨h1, HL⟩, h2⟩
end Go.Proofs.Ytgomodhhomekpaa
