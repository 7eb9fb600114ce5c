/-
  make of bytes; a copy of a slice of bytes.
-/
import Derived.Test.YtgomodhhomekpaaLw
import Derived.Test.YtgomodhhomekpaaFb
namespace Go.Proofs.Ytgomodhhomekpaa
open Go.RowKit Pu Ar
theorem made_noughts (n : Nat) : madeCells (Value.int .u8 0).cells (n * 1) = (List.replicate n (Value.int .u8 0)).toArray := by
  unfold madeCells
  apply Array.ext
  · simp
  · intro i h1 h2
    simp [Value.cells, Nat.mod_one]
theorem run_make_by (n c : Nat) (hn : n ≤ c) (hm : c ≤ 140737488355328) (w : World) :
    (Instr.makeSlice 24 (.int .i64 (n : Int)) (.int .i64 (c : Int))).run Try.prog w = .ok (.slice (some ⟨w.heap.size, 0, none⟩) n c) (w.alloc (.cells (List.replicate c (Value.int .u8 0)).toArray 5)) := by
  obtain ⟨i, hi, hz0, hz1, hz2⟩ := info_parts infoByte
  have h := run_make (P := Try.prog) w 24 5 i _ Try.underlying24 hi hz0 .i64 .i64 n c (by omega) (by exact_mod_cast hn) (by rw [hz2]; omega) (by omega)
  rw [hz1] at h
  simp only [Int.toNat_natCast] at h
  rw [h, made_noughts]
end Go.Proofs.Ytgomodhhomekpaa
