/-
  Memory: what a block holds, what a call leaves alone, what a slice of bytes reads as.
-/
import Derived.Test.YtgomodhhomekpaaProg
import Derived.Test.YtgomodhhomekpaaPure
import Derived.Test.YtgomodhhomekpaaAr
import Derived.WalkKit
import Derived.Lib.Hide
import Derived.Deep.QuietTactic
import Derived.BigQuiet
namespace Go.Proofs.Ytgomodhhomekpaa
open Go.RowKit Pu Ar

def vb (x : UInt8) : Value := .int .u8 (ib x)
def vw (x : UInt32) : Value := .int .u32 (iw x)

/-- Nothing but the blocks of S has turned; new ones may lie behind. -/
structure Tch (S : List Nat) (w w' : World) : Prop where
  os : w'.os = w.os
  tape : w'.tape = w.tape
  output : w'.output = w.output
  size : w.heap.size ≤ w'.heap.size
  block : ∀ k, k < w.heap.size → k ∉ S → w'.heap[k]? = w.heap[k]?

theorem Tch.refl (S : List Nat) (w : World) : Tch S w w := ⟨rfl, rfl, rfl, Nat.le_refl _, fun _ _ _ => rfl⟩
theorem Tch.trans {S : List Nat} {a b c : World} (h : Tch S a b) (k : Tch S b c) : Tch S a c :=
  ⟨k.os.trans h.os, k.tape.trans h.tape, k.output.trans h.output, Nat.le_trans h.size k.size,
   fun i hi hn => (k.block i (Nat.lt_of_lt_of_le hi h.size) hn).trans (h.block i hi hn)⟩
theorem Tch.mono {S T : List Nat} {w w' : World} (h : Tch S w w') (hs : ∀ k ∈ S, k ∈ T) : Tch T w w' :=
  ⟨h.os, h.tape, h.output, h.size, fun i hi hn => h.block i hi (fun hm => hn (hs i hm))⟩
/-- A second step may also touch what is new since the first world. -/
theorem Tch.new {S T : List Nat} {a b c : World} (h : Tch S a b) (k : Tch T b c) (hT : ∀ i ∈ T, i ∈ S ∨ a.heap.size ≤ i) : Tch S a c :=
  ⟨k.os.trans h.os, k.tape.trans h.tape, k.output.trans h.output, Nat.le_trans h.size k.size,
   fun i hi hn => (k.block i (Nat.lt_of_lt_of_le hi h.size) (fun hm => by rcases hT i hm with h1 | h1; exact hn h1; omega)).trans (h.block i hi hn)⟩
theorem Tch.drewN {S : List Nat} (w : World) (n : Nat) : Tch S w (w.drewN n) := ⟨rfl, rfl, rfl, Nat.le_refl _, fun _ _ _ => rfl⟩
theorem Tch.alloc {S : List Nat} (w : World) (o : Obj) : Tch S w (w.alloc o) := ⟨rfl, rfl, rfl, by simp, fun k hk _ => Below.heap_alloc w o k hk⟩
theorem Tch.setCell {S : List Nat} (w : World) (p : Addr) (v : Value) (h : p.block ∈ S) : Tch S w (w.setCell p v) :=
  ⟨rfl, rfl, rfl, by simp [World.setCell], fun k _ hn => heap_setCell_other w p k v (fun e => hn (e ▸ h))⟩
theorem Tch.setRow {S : List Nat} (w : World) (g : Nat) (cs : Array Value) (h : g ∈ S) : Tch S w (w.setRow g cs) :=
  ⟨rfl, rfl, rfl, by simp, fun k _ hn => setRow_other w g k cs (fun e => hn (e ▸ h))⟩
theorem Tch.grown {w w' : World} {row : Option Nat} (h : w.grownBy w' row) : Tch row.toList w w' :=
  ⟨h.os, h.tape, h.output, h.size, fun k hk hn => h.block k hk (fun e => hn (by simp [← e]))⟩
theorem Tch.below {w w' : World} (h : Tch [] w w') : Below w.heap.size w w' := ⟨h.os, h.tape, h.output, h.size, fun k hk => h.block k hk (by simp)⟩
theorem Tch.same {S : List Nat} {w w' : World} (h : Tch S w w') {b : Nat} {o : Obj} (hb : w.heap[b]? = some o) (hn : b ∉ S) : w'.heap[b]? = some o := by
  rw [h.block b (lt_of_block hb) hn]; exact hb

/-- Block b is a row of cells of its own, that may be written. -/
def Row (w : World) (b : Nat) (t : TypeId) (cs : List Value) : Prop := w.heap[b]? = some (.cells cs.toArray t (0, 0))
theorem Row.lt {w : World} {b : Nat} {t : TypeId} {cs : List Value} (h : Row w b t cs) : b < w.heap.size := lt_of_block h
theorem Row.cell {w : World} {b : Nat} {t : TypeId} {cs : List Value} (h : Row w b t cs) (i : Nat) : w.cell? ⟨b, i, none⟩ = cs[i]? := by
  rw [cell_of_row w b i _ t (0, 0) h]; simp
theorem Row.free {w : World} {b : Nat} {t : TypeId} {cs : List Value} (h : Row w b t cs) (i : Nat) : w.frozen? ⟨b, i, none⟩ = false := frozen_of_row w b i _ t h
theorem Row.set {w : World} {b : Nat} {t : TypeId} {cs : List Value} (h : Row w b t cs) (i : Nat) (v : Value) : Row (w.setCell ⟨b, i, none⟩ v) b t (cs.set i v) := by
  unfold Row at *
  rw [heap_setCell_same w b i _ t v h]; simp
theorem Row.setOther {w : World} {b : Nat} {t : TypeId} {cs : List Value} (h : Row w b t cs) (p : Addr) (v : Value) (hp : b ≠ p.block) : Row (w.setCell p v) b t cs := by
  unfold Row at *
  rw [heap_setCell_other w p b v hp]; exact h
theorem Row.tch {S : List Nat} {w w' : World} {b : Nat} {t : TypeId} {cs : List Value} (h : Row w b t cs) (k : Tch S w w') (hn : b ∉ S) : Row w' b t cs := k.same h hn
theorem Row.new (w : World) (t : TypeId) (cs : List Value) : Row (w.alloc (.cells cs.toArray t)) w.heap.size t cs := heap_alloc_new w _
theorem Row.alloc {w : World} {b : Nat} {t : TypeId} {cs : List Value} (h : Row w b t cs) (o : Obj) : Row (w.alloc o) b t cs := h.tch (S := []) (Tch.alloc w o) (by simp)
theorem Row.drewN {w : World} {b : Nat} {t : TypeId} {cs : List Value} (h : Row w b t cs) (n : Nat) : Row (w.drewN n) b t cs := h

/-- The slice v reads as the bytes l. -/
def Rd (w : World) (v : Value) (l : By) : Prop :=
  ∃ p cap, v = .slice p l.length cap ∧ l.length ≤ cap ∧ cap ≤ maxLen ∧ (l = [] ∨ ∃ b o, p = some ⟨b, o, none⟩ ∧ ∀ i x, l[i]? = some x → w.cell? ⟨b, o + i, none⟩ = some (vb x))

/-- The blocks that S may not hold if v is to read as it did. -/
def Off (S : List Nat) (v : Value) : Prop := ∀ b, v.ownBlock = some b → b ∉ S

theorem Rd.nil (w : World) : Rd w (.slice none 0 0) [] := ⟨none, 0, rfl, Nat.le_refl _, by unfold maxLen; omega, .inl rfl⟩
theorem cell_lt {w : World} {a : Addr} {v : Value} (h : w.cell? a = some v) : a.block < w.heap.size := block_lt_of_cell h
theorem Tch.cell {S : List Nat} {w w' : World} (k : Tch S w w') {a : Addr} {v : Value} (h : w.cell? a = some v) (hn : a.block ∉ S) : w'.cell? a = some v := by
  rw [World.cell?_of_block (k.block a.block (cell_lt h) hn)]; exact h
theorem Rd.tch {S : List Nat} {w w' : World} {v : Value} {l : By} (h : Rd w v l) (k : Tch S w w') (hn : Off S v) : Rd w' v l := by
  obtain ⟨p, cap, hv, hl, hm, h⟩ := h
  refine ⟨p, cap, hv, hl, hm, ?_⟩
  rcases h with h | ⟨b, o, rfl, h⟩
  · exact .inl h
  · exact .inr ⟨b, o, rfl, fun i x hx => k.cell (h i x hx) (hn b (by rw [hv]; rfl))⟩
/-- What has just been made is none of the old blocks. -/
theorem Rd.tchNew {S : List Nat} {w w' : World} {v : Value} {l : By} (h : Rd w v l) (k : Tch S w w') (hn : ∀ b ∈ S, w.heap.size ≤ b) : Rd w' v l := by
  obtain ⟨p, cap, hv, hl, hm, h⟩ := h
  refine ⟨p, cap, hv, hl, hm, ?_⟩
  rcases h with h | ⟨b, o, rfl, h⟩
  · exact .inl h
  · refine .inr ⟨b, o, rfl, fun i x hx => k.cell (h i x hx) (fun hm => ?_)⟩
    have h1 : b < w.heap.size := cell_lt (h i x hx)
    have h2 : w.heap.size ≤ b := hn _ hm
    omega
theorem Rd.len {w : World} {v : Value} {l : By} (h : Rd w v l) : l.length ≤ maxLen := by
  obtain ⟨_, _, _, h1, h2, _⟩ := h; omega

/-- The table of the round constants, as it lies in memory. -/
def KIs (w : World) (kt : List UInt32) : Prop := kt.length = 64 ∧ Row w 0 117 (kt.map vw)
theorem KIs.tch {S : List Nat} {w w' : World} {kt : List UInt32} (h : KIs w kt) (k : Tch S w w') (hn : 0 ∉ S) : KIs w' kt := ⟨h.1, h.2.tch k hn⟩
theorem Row.ne {w : World} {b b' : Nat} {t t' : TypeId} {cs cs' : List Value} (h : Row w b t cs) (h' : Row w b' t' cs') (hn : t ≠ t') : b ≠ b' := by
  intro e; subst e
  unfold Row at h h'
  rw [h] at h'
  simp at h'
  exact hn h'.2

/-- A digest's cells. -/
def digCells (s : S8) (x : By) (nx len : Nat) : List Value :=
  [vw s.a, vw s.b, vw s.c, vw s.d, vw s.e, vw s.f, vw s.g, vw s.h] ++ x.map vb ++ [.int .i64 nx, .int .u64 len, .bool false]
theorem digCells_x (s : S8) (x : By) (nx len i : Nat) (hi : i < x.length) : (digCells s x nx len)[8 + i]? = some (vb (x.getD i 0)) := by
  unfold digCells
  rw [List.append_assoc, List.getElem?_append_right (by simp), List.getElem?_append_left (by simp; omega)]
  simp [List.getD_eq_getElem?_getD, List.getElem?_eq_getElem hi]

end Go.Proofs.Ytgomodhhomekpaa
