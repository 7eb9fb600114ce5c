/-
  The rotation of a word: what math/bits.RotateLeft32 and spec.turned come to.
-/
import Derived.Test.YtgomodhhomekpaaProg
import Derived.Test.YtgomodhhomekpaaPure
import Derived.Test.YtgomodhhomekpaaAr
import Derived.WalkKit
import Derived.Lib.Hide
import Derived.Deep.QuietTactic
import Derived.BigQuiet
namespace Go.Proofs.Ytgomodhhomekpaa
open Go.RowKit Pu Ar

theorem rot2 (x : UInt32) (w : World) :
    Calls Try.prog 113 #[.int .u32 (iw x), .int .i64 (-2)] w fun e w' => e = .returned (.int .u32 (iw (rotr x 2))) ∧ w' = w := by
  have e0 : bits .and .u64 (IntKind.u64.wrap (-2)) 31 = 30 := by decide
  have e1 := Ar.shl32_30 x
  have e2 := Ar.shr32_2 x
  have e3 := Ar.bits_or32
  go_enter Try.func113, Try.ntmps113
  go_wp2
  go_ret
  exact ⟨by rw [UInt32.or_comm]; rfl, rfl⟩
theorem rot2' (x : UInt32) (w : World) :
    Calls Try.prog 113 #[.int .u32 (iw x), .int .i64 (-2)] w fun e w' => e = .returned (.int .u32 (iw (rotr x 2))) ∧ w = w' :=
  (rot2 x w).mono fun _ _ h => ⟨h.1, h.2.symm⟩
theorem turned2 (x : UInt32) (w : World) :
    Calls Try.prog 77 #[.int .u32 (iw x), .int .i64 2] w fun e w' => e = .returned (.int .u32 (iw (rotr x 2))) ∧ ∃ k, w' = w.drewN k := by
  have e1 := Ar.shl32_30 x
  have e2 := Ar.shr32_2 x
  have e3 := Ar.bits_or32
  go_enter Try.func77, Try.ntmps77
  go_wp2
  go_quiet (fail)
  go_wp2
  go_ret
  exact ⟨rfl, _, rfl⟩
theorem rot6 (x : UInt32) (w : World) :
    Calls Try.prog 113 #[.int .u32 (iw x), .int .i64 (-6)] w fun e w' => e = .returned (.int .u32 (iw (rotr x 6))) ∧ w' = w := by
  have e0 : bits .and .u64 (IntKind.u64.wrap (-6)) 31 = 26 := by decide
  have e1 := Ar.shl32_26 x
  have e2 := Ar.shr32_6 x
  have e3 := Ar.bits_or32
  go_enter Try.func113, Try.ntmps113
  go_wp2
  go_ret
  exact ⟨by rw [UInt32.or_comm]; rfl, rfl⟩
theorem rot6' (x : UInt32) (w : World) :
    Calls Try.prog 113 #[.int .u32 (iw x), .int .i64 (-6)] w fun e w' => e = .returned (.int .u32 (iw (rotr x 6))) ∧ w = w' :=
  (rot6 x w).mono fun _ _ h => ⟨h.1, h.2.symm⟩
theorem turned6 (x : UInt32) (w : World) :
    Calls Try.prog 77 #[.int .u32 (iw x), .int .i64 6] w fun e w' => e = .returned (.int .u32 (iw (rotr x 6))) ∧ ∃ k, w' = w.drewN k := by
  have e1 := Ar.shl32_26 x
  have e2 := Ar.shr32_6 x
  have e3 := Ar.bits_or32
  go_enter Try.func77, Try.ntmps77
  go_wp2
  go_quiet (fail)
  go_wp2
  go_ret
  exact ⟨rfl, _, rfl⟩
theorem rot7 (x : UInt32) (w : World) :
    Calls Try.prog 113 #[.int .u32 (iw x), .int .i64 (-7)] w fun e w' => e = .returned (.int .u32 (iw (rotr x 7))) ∧ w' = w := by
  have e0 : bits .and .u64 (IntKind.u64.wrap (-7)) 31 = 25 := by decide
  have e1 := Ar.shl32_25 x
  have e2 := Ar.shr32_7 x
  have e3 := Ar.bits_or32
  go_enter Try.func113, Try.ntmps113
  go_wp2
  go_ret
  exact ⟨by rw [UInt32.or_comm]; rfl, rfl⟩
theorem rot7' (x : UInt32) (w : World) :
    Calls Try.prog 113 #[.int .u32 (iw x), .int .i64 (-7)] w fun e w' => e = .returned (.int .u32 (iw (rotr x 7))) ∧ w = w' :=
  (rot7 x w).mono fun _ _ h => ⟨h.1, h.2.symm⟩
theorem turned7 (x : UInt32) (w : World) :
    Calls Try.prog 77 #[.int .u32 (iw x), .int .i64 7] w fun e w' => e = .returned (.int .u32 (iw (rotr x 7))) ∧ ∃ k, w' = w.drewN k := by
  have e1 := Ar.shl32_25 x
  have e2 := Ar.shr32_7 x
  have e3 := Ar.bits_or32
  go_enter Try.func77, Try.ntmps77
  go_wp2
  go_quiet (fail)
  go_wp2
  go_ret
  exact ⟨rfl, _, rfl⟩
theorem rot11 (x : UInt32) (w : World) :
    Calls Try.prog 113 #[.int .u32 (iw x), .int .i64 (-11)] w fun e w' => e = .returned (.int .u32 (iw (rotr x 11))) ∧ w' = w := by
  have e0 : bits .and .u64 (IntKind.u64.wrap (-11)) 31 = 21 := by decide
  have e1 := Ar.shl32_21 x
  have e2 := Ar.shr32_11 x
  have e3 := Ar.bits_or32
  go_enter Try.func113, Try.ntmps113
  go_wp2
  go_ret
  exact ⟨by rw [UInt32.or_comm]; rfl, rfl⟩
theorem rot11' (x : UInt32) (w : World) :
    Calls Try.prog 113 #[.int .u32 (iw x), .int .i64 (-11)] w fun e w' => e = .returned (.int .u32 (iw (rotr x 11))) ∧ w = w' :=
  (rot11 x w).mono fun _ _ h => ⟨h.1, h.2.symm⟩
theorem turned11 (x : UInt32) (w : World) :
    Calls Try.prog 77 #[.int .u32 (iw x), .int .i64 11] w fun e w' => e = .returned (.int .u32 (iw (rotr x 11))) ∧ ∃ k, w' = w.drewN k := by
  have e1 := Ar.shl32_21 x
  have e2 := Ar.shr32_11 x
  have e3 := Ar.bits_or32
  go_enter Try.func77, Try.ntmps77
  go_wp2
  go_quiet (fail)
  go_wp2
  go_ret
  exact ⟨rfl, _, rfl⟩
theorem rot13 (x : UInt32) (w : World) :
    Calls Try.prog 113 #[.int .u32 (iw x), .int .i64 (-13)] w fun e w' => e = .returned (.int .u32 (iw (rotr x 13))) ∧ w' = w := by
  have e0 : bits .and .u64 (IntKind.u64.wrap (-13)) 31 = 19 := by decide
  have e1 := Ar.shl32_19 x
  have e2 := Ar.shr32_13 x
  have e3 := Ar.bits_or32
  go_enter Try.func113, Try.ntmps113
  go_wp2
  go_ret
  exact ⟨by rw [UInt32.or_comm]; rfl, rfl⟩
theorem rot13' (x : UInt32) (w : World) :
    Calls Try.prog 113 #[.int .u32 (iw x), .int .i64 (-13)] w fun e w' => e = .returned (.int .u32 (iw (rotr x 13))) ∧ w = w' :=
  (rot13 x w).mono fun _ _ h => ⟨h.1, h.2.symm⟩
theorem turned13 (x : UInt32) (w : World) :
    Calls Try.prog 77 #[.int .u32 (iw x), .int .i64 13] w fun e w' => e = .returned (.int .u32 (iw (rotr x 13))) ∧ ∃ k, w' = w.drewN k := by
  have e1 := Ar.shl32_19 x
  have e2 := Ar.shr32_13 x
  have e3 := Ar.bits_or32
  go_enter Try.func77, Try.ntmps77
  go_wp2
  go_quiet (fail)
  go_wp2
  go_ret
  exact ⟨rfl, _, rfl⟩
theorem rot17 (x : UInt32) (w : World) :
    Calls Try.prog 113 #[.int .u32 (iw x), .int .i64 (-17)] w fun e w' => e = .returned (.int .u32 (iw (rotr x 17))) ∧ w' = w := by
  have e0 : bits .and .u64 (IntKind.u64.wrap (-17)) 31 = 15 := by decide
  have e1 := Ar.shl32_15 x
  have e2 := Ar.shr32_17 x
  have e3 := Ar.bits_or32
  go_enter Try.func113, Try.ntmps113
  go_wp2
  go_ret
  exact ⟨by rw [UInt32.or_comm]; rfl, rfl⟩
theorem rot17' (x : UInt32) (w : World) :
    Calls Try.prog 113 #[.int .u32 (iw x), .int .i64 (-17)] w fun e w' => e = .returned (.int .u32 (iw (rotr x 17))) ∧ w = w' :=
  (rot17 x w).mono fun _ _ h => ⟨h.1, h.2.symm⟩
theorem turned17 (x : UInt32) (w : World) :
    Calls Try.prog 77 #[.int .u32 (iw x), .int .i64 17] w fun e w' => e = .returned (.int .u32 (iw (rotr x 17))) ∧ ∃ k, w' = w.drewN k := by
  have e1 := Ar.shl32_15 x
  have e2 := Ar.shr32_17 x
  have e3 := Ar.bits_or32
  go_enter Try.func77, Try.ntmps77
  go_wp2
  go_quiet (fail)
  go_wp2
  go_ret
  exact ⟨rfl, _, rfl⟩
theorem rot18 (x : UInt32) (w : World) :
    Calls Try.prog 113 #[.int .u32 (iw x), .int .i64 (-18)] w fun e w' => e = .returned (.int .u32 (iw (rotr x 18))) ∧ w' = w := by
  have e0 : bits .and .u64 (IntKind.u64.wrap (-18)) 31 = 14 := by decide
  have e1 := Ar.shl32_14 x
  have e2 := Ar.shr32_18 x
  have e3 := Ar.bits_or32
  go_enter Try.func113, Try.ntmps113
  go_wp2
  go_ret
  exact ⟨by rw [UInt32.or_comm]; rfl, rfl⟩
theorem rot18' (x : UInt32) (w : World) :
    Calls Try.prog 113 #[.int .u32 (iw x), .int .i64 (-18)] w fun e w' => e = .returned (.int .u32 (iw (rotr x 18))) ∧ w = w' :=
  (rot18 x w).mono fun _ _ h => ⟨h.1, h.2.symm⟩
theorem turned18 (x : UInt32) (w : World) :
    Calls Try.prog 77 #[.int .u32 (iw x), .int .i64 18] w fun e w' => e = .returned (.int .u32 (iw (rotr x 18))) ∧ ∃ k, w' = w.drewN k := by
  have e1 := Ar.shl32_14 x
  have e2 := Ar.shr32_18 x
  have e3 := Ar.bits_or32
  go_enter Try.func77, Try.ntmps77
  go_wp2
  go_quiet (fail)
  go_wp2
  go_ret
  exact ⟨rfl, _, rfl⟩
theorem rot19 (x : UInt32) (w : World) :
    Calls Try.prog 113 #[.int .u32 (iw x), .int .i64 (-19)] w fun e w' => e = .returned (.int .u32 (iw (rotr x 19))) ∧ w' = w := by
  have e0 : bits .and .u64 (IntKind.u64.wrap (-19)) 31 = 13 := by decide
  have e1 := Ar.shl32_13 x
  have e2 := Ar.shr32_19 x
  have e3 := Ar.bits_or32
  go_enter Try.func113, Try.ntmps113
  go_wp2
  go_ret
  exact ⟨by rw [UInt32.or_comm]; rfl, rfl⟩
theorem rot19' (x : UInt32) (w : World) :
    Calls Try.prog 113 #[.int .u32 (iw x), .int .i64 (-19)] w fun e w' => e = .returned (.int .u32 (iw (rotr x 19))) ∧ w = w' :=
  (rot19 x w).mono fun _ _ h => ⟨h.1, h.2.symm⟩
theorem turned19 (x : UInt32) (w : World) :
    Calls Try.prog 77 #[.int .u32 (iw x), .int .i64 19] w fun e w' => e = .returned (.int .u32 (iw (rotr x 19))) ∧ ∃ k, w' = w.drewN k := by
  have e1 := Ar.shl32_13 x
  have e2 := Ar.shr32_19 x
  have e3 := Ar.bits_or32
  go_enter Try.func77, Try.ntmps77
  go_wp2
  go_quiet (fail)
  go_wp2
  go_ret
  exact ⟨rfl, _, rfl⟩
theorem rot22 (x : UInt32) (w : World) :
    Calls Try.prog 113 #[.int .u32 (iw x), .int .i64 (-22)] w fun e w' => e = .returned (.int .u32 (iw (rotr x 22))) ∧ w' = w := by
  have e0 : bits .and .u64 (IntKind.u64.wrap (-22)) 31 = 10 := by decide
  have e1 := Ar.shl32_10 x
  have e2 := Ar.shr32_22 x
  have e3 := Ar.bits_or32
  go_enter Try.func113, Try.ntmps113
  go_wp2
  go_ret
  exact ⟨by rw [UInt32.or_comm]; rfl, rfl⟩
theorem rot22' (x : UInt32) (w : World) :
    Calls Try.prog 113 #[.int .u32 (iw x), .int .i64 (-22)] w fun e w' => e = .returned (.int .u32 (iw (rotr x 22))) ∧ w = w' :=
  (rot22 x w).mono fun _ _ h => ⟨h.1, h.2.symm⟩
theorem turned22 (x : UInt32) (w : World) :
    Calls Try.prog 77 #[.int .u32 (iw x), .int .i64 22] w fun e w' => e = .returned (.int .u32 (iw (rotr x 22))) ∧ ∃ k, w' = w.drewN k := by
  have e1 := Ar.shl32_10 x
  have e2 := Ar.shr32_22 x
  have e3 := Ar.bits_or32
  go_enter Try.func77, Try.ntmps77
  go_wp2
  go_quiet (fail)
  go_wp2
  go_ret
  exact ⟨rfl, _, rfl⟩
theorem rot25 (x : UInt32) (w : World) :
    Calls Try.prog 113 #[.int .u32 (iw x), .int .i64 (-25)] w fun e w' => e = .returned (.int .u32 (iw (rotr x 25))) ∧ w' = w := by
  have e0 : bits .and .u64 (IntKind.u64.wrap (-25)) 31 = 7 := by decide
  have e1 := Ar.shl32_7 x
  have e2 := Ar.shr32_25 x
  have e3 := Ar.bits_or32
  go_enter Try.func113, Try.ntmps113
  go_wp2
  go_ret
  exact ⟨by rw [UInt32.or_comm]; rfl, rfl⟩
theorem rot25' (x : UInt32) (w : World) :
    Calls Try.prog 113 #[.int .u32 (iw x), .int .i64 (-25)] w fun e w' => e = .returned (.int .u32 (iw (rotr x 25))) ∧ w = w' :=
  (rot25 x w).mono fun _ _ h => ⟨h.1, h.2.symm⟩
theorem turned25 (x : UInt32) (w : World) :
    Calls Try.prog 77 #[.int .u32 (iw x), .int .i64 25] w fun e w' => e = .returned (.int .u32 (iw (rotr x 25))) ∧ ∃ k, w' = w.drewN k := by
  have e1 := Ar.shl32_7 x
  have e2 := Ar.shr32_25 x
  have e3 := Ar.bits_or32
  go_enter Try.func77, Try.ntmps77
  go_wp2
  go_quiet (fail)
  go_wp2
  go_ret
  exact ⟨rfl, _, rfl⟩
end Go.Proofs.Ytgomodhhomekpaa
