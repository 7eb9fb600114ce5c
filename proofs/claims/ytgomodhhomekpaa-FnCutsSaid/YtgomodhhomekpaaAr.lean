/-
  The model's integer operations at words: each gives the word that Lean's own UInt8, UInt32, UInt64 give. A word's number stands behind a name of its own, which simp does not open.
-/
import Derived.WalkKit
namespace Go.Proofs.Ytgomodhhomekpaa
namespace Ar
/-- The number of a word: names that the walk does not open. -/
def ib (x : UInt8) : Int := (x.toNat : Int)
def iw (x : UInt32) : Int := (x.toNat : Int)
def iq (x : UInt64) : Int := (x.toNat : Int)
theorem ib_nn (x : UInt8) : 0 ≤ ib x := Int.natCast_nonneg _
theorem iw_nn (x : UInt32) : 0 ≤ iw x := Int.natCast_nonneg _
theorem iq_nn (x : UInt64) : 0 ≤ iq x := Int.natCast_nonneg _
theorem ib_lt (x : UInt8) : ib x < 256 := by have h : x.toNat < 256 := x.toNat_lt; unfold ib; omega
theorem iw_lt (x : UInt32) : iw x < 4294967296 := by have h : x.toNat < 4294967296 := x.toNat_lt; unfold iw; omega
theorem iq_lt (x : UInt64) : iq x < 18446744073709551616 := by have h : x.toNat < 18446744073709551616 := x.toNat_lt; unfold iq; omega

theorem lt8 (x : UInt8) : x.toNat < 256 := x.toNat_lt
theorem ib_inj {a b : UInt8} (h : ib a = ib b) : a = b := by unfold ib at h; exact UInt8.toNat_inj.1 (by omega)
theorem wrap_add8 (a b : UInt8) : IntKind.u8.wrap (ib a + ib b) = ib (a + b) := by
  unfold ib; rw [IntKind.wrap_u8', UInt8.toNat_add]; omega
theorem wrap_sub8 (a b : UInt8) : IntKind.u8.wrap (ib a - ib b) = ib (a - b) := by
  have h1 := lt8 a; have h2 := lt8 b
  unfold ib; rw [IntKind.wrap_u8', UInt8.toNat_sub]; omega
theorem wrap_of8 (n : Nat) : IntKind.u8.wrap (n : Int) = ib (UInt8.ofNat n) := by
  unfold ib; rw [IntKind.wrap_u8', UInt8.toNat_ofNat']; omega
theorem wrap_self8 (a : UInt8) : IntKind.u8.wrap (ib a) = ib a := by
  have h1 := lt8 a
  unfold ib; rw [IntKind.wrap_u8']; omega
theorem bits_and8 (a b : UInt8) : bits .and .u8 (ib a) (ib b) = ib (a &&& b) := by
  unfold ib; rw [u8_and_nat _ _ (lt8 a) (lt8 b), UInt8.toNat_and]
theorem bits_or8 (a b : UInt8) : bits .or .u8 (ib a) (ib b) = ib (a ||| b) := by
  unfold ib; rw [u8_or_nat _ _ (lt8 a) (lt8 b), UInt8.toNat_or]
theorem bits_xor8 (a b : UInt8) : bits .xor .u8 (ib a) (ib b) = ib (a ^^^ b) := by
  unfold ib; rw [u8_xor_nat _ _ (lt8 a) (lt8 b), UInt8.toNat_xor]
theorem lt32 (x : UInt32) : x.toNat < 4294967296 := x.toNat_lt
theorem iw_inj {a b : UInt32} (h : iw a = iw b) : a = b := by unfold iw at h; exact UInt32.toNat_inj.1 (by omega)
theorem wrap_add32 (a b : UInt32) : IntKind.u32.wrap (iw a + iw b) = iw (a + b) := by
  unfold iw; rw [IntKind.wrap_u32', UInt32.toNat_add]; omega
theorem wrap_sub32 (a b : UInt32) : IntKind.u32.wrap (iw a - iw b) = iw (a - b) := by
  have h1 := lt32 a; have h2 := lt32 b
  unfold iw; rw [IntKind.wrap_u32', UInt32.toNat_sub]; omega
theorem wrap_of32 (n : Nat) : IntKind.u32.wrap (n : Int) = iw (UInt32.ofNat n) := by
  unfold iw; rw [IntKind.wrap_u32', UInt32.toNat_ofNat']; omega
theorem wrap_self32 (a : UInt32) : IntKind.u32.wrap (iw a) = iw a := by
  have h1 := lt32 a
  unfold iw; rw [IntKind.wrap_u32']; omega
theorem bits_and32 (a b : UInt32) : bits .and .u32 (iw a) (iw b) = iw (a &&& b) := by
  unfold iw; rw [u32_and_nat _ _ (lt32 a) (lt32 b), UInt32.toNat_and]
theorem bits_or32 (a b : UInt32) : bits .or .u32 (iw a) (iw b) = iw (a ||| b) := by
  unfold iw; rw [u32_or_nat _ _ (lt32 a) (lt32 b), UInt32.toNat_or]
theorem bits_xor32 (a b : UInt32) : bits .xor .u32 (iw a) (iw b) = iw (a ^^^ b) := by
  unfold iw; rw [u32_xor_nat _ _ (lt32 a) (lt32 b), UInt32.toNat_xor]
theorem lt64 (x : UInt64) : x.toNat < 18446744073709551616 := x.toNat_lt
theorem iq_inj {a b : UInt64} (h : iq a = iq b) : a = b := by unfold iq at h; exact UInt64.toNat_inj.1 (by omega)
theorem wrap_add64 (a b : UInt64) : IntKind.u64.wrap (iq a + iq b) = iq (a + b) := by
  unfold iq; rw [IntKind.wrap_u64, UInt64.toNat_add]; omega
theorem wrap_sub64 (a b : UInt64) : IntKind.u64.wrap (iq a - iq b) = iq (a - b) := by
  have h1 := lt64 a; have h2 := lt64 b
  unfold iq; rw [IntKind.wrap_u64, UInt64.toNat_sub]; omega
theorem wrap_of64 (n : Nat) : IntKind.u64.wrap (n : Int) = iq (UInt64.ofNat n) := by
  unfold iq; rw [IntKind.wrap_u64, UInt64.toNat_ofNat']; omega
theorem wrap_self64 (a : UInt64) : IntKind.u64.wrap (iq a) = iq a := by
  have h1 := lt64 a
  unfold iq; rw [IntKind.wrap_u64]; omega
theorem bits_and64 (a b : UInt64) : bits .and .u64 (iq a) (iq b) = iq (a &&& b) := by
  unfold iq; rw [u64_and_nat _ _ (lt64 a) (lt64 b), UInt64.toNat_and]
theorem bits_or64 (a b : UInt64) : bits .or .u64 (iq a) (iq b) = iq (a ||| b) := by
  unfold iq; rw [u64_or_nat _ _ (lt64 a) (lt64 b), UInt64.toNat_or]
theorem bits_xor64 (a b : UInt64) : bits .xor .u64 (iq a) (iq b) = iq (a ^^^ b) := by
  unfold iq; rw [u64_xor_nat _ _ (lt64 a) (lt64 b), UInt64.toNat_xor]
theorem wrap_mul31 (a : UInt8) : IntKind.u8.wrap (31 * ib a) = ib (31 * a) := by
  unfold ib; rw [IntKind.wrap_u8', UInt8.toNat_mul]; simp
theorem bits_not32 (a : UInt32) : bits .xor .u32 4294967295 (iw a) = iw (~~~a) := by
  have h : (4294967295 : Int) = iw (-1 : UInt32) := by decide
  rw [h, bits_xor32, UInt32.neg_one_xor]
theorem bits_not32' (a : UInt32) : bits .xor .u32 IntKind.u32.max (iw a) = iw (~~~a) := bits_not32 a
theorem byte32_wrap (a : UInt8) : IntKind.u32.wrap (ib a) = iw a.toUInt32 := by
  unfold ib; rw [wrap_of32]; simp [iw]
theorem low32 (a : UInt32) : IntKind.u8.wrap (iw a) = ib a.toUInt8 := by
  unfold iw; rw [wrap_of8]; simp [ib]
theorem low64 (a : UInt64) : IntKind.u8.wrap (iq a) = ib a.toUInt8 := by
  unfold iq; rw [wrap_of8]; simp [ib]
theorem xor8_36 (a : UInt8) : bits .xor .u8 (ib a) 54 = ib (a ^^^ 0x36) := by
  rw [show (54 : Int) = ib 0x36 from by decide]; exact bits_xor8 a _
theorem xor8_5c (a : UInt8) : bits .xor .u8 (ib a) 92 = ib (a ^^^ 0x5c) := by
  rw [show (92 : Int) = ib 0x5c from by decide]; exact bits_xor8 a _

theorem shr32_3 (x : UInt32) (yk : IntKind) : Op.shift .shr .u32 (iw x) yk 3 = pure (.int .u32 (iw (x >>> 3))) := by
  have e : ((x >>> 3).toNat : Int) = (x.toNat : Int) / 8 := by rw [UInt32.toNat_shiftRight]; simp [Nat.shiftRight_eq_div_pow]
  unfold iw; rw [e, shift_shr_any _ _ _ _ (by decide)]; rfl
theorem shr32_7 (x : UInt32) (yk : IntKind) : Op.shift .shr .u32 (iw x) yk 7 = pure (.int .u32 (iw (x >>> 7))) := by
  have e : ((x >>> 7).toNat : Int) = (x.toNat : Int) / 128 := by rw [UInt32.toNat_shiftRight]; simp [Nat.shiftRight_eq_div_pow]
  unfold iw; rw [e, shift_shr_any _ _ _ _ (by decide)]; rfl
theorem shr32_8 (x : UInt32) (yk : IntKind) : Op.shift .shr .u32 (iw x) yk 8 = pure (.int .u32 (iw (x >>> 8))) := by
  have e : ((x >>> 8).toNat : Int) = (x.toNat : Int) / 256 := by rw [UInt32.toNat_shiftRight]; simp [Nat.shiftRight_eq_div_pow]
  unfold iw; rw [e, shift_shr_any _ _ _ _ (by decide)]; rfl
theorem shr32_10 (x : UInt32) (yk : IntKind) : Op.shift .shr .u32 (iw x) yk 10 = pure (.int .u32 (iw (x >>> 10))) := by
  have e : ((x >>> 10).toNat : Int) = (x.toNat : Int) / 1024 := by rw [UInt32.toNat_shiftRight]; simp [Nat.shiftRight_eq_div_pow]
  unfold iw; rw [e, shift_shr_any _ _ _ _ (by decide)]; rfl
theorem shr32_2 (x : UInt32) (yk : IntKind) : Op.shift .shr .u32 (iw x) yk 2 = pure (.int .u32 (iw (x >>> 2))) := by
  have e : ((x >>> 2).toNat : Int) = (x.toNat : Int) / 4 := by rw [UInt32.toNat_shiftRight]; simp [Nat.shiftRight_eq_div_pow]
  unfold iw; rw [e, shift_shr_any _ _ _ _ (by decide)]; rfl
theorem shr32_6 (x : UInt32) (yk : IntKind) : Op.shift .shr .u32 (iw x) yk 6 = pure (.int .u32 (iw (x >>> 6))) := by
  have e : ((x >>> 6).toNat : Int) = (x.toNat : Int) / 64 := by rw [UInt32.toNat_shiftRight]; simp [Nat.shiftRight_eq_div_pow]
  unfold iw; rw [e, shift_shr_any _ _ _ _ (by decide)]; rfl
theorem shr32_11 (x : UInt32) (yk : IntKind) : Op.shift .shr .u32 (iw x) yk 11 = pure (.int .u32 (iw (x >>> 11))) := by
  have e : ((x >>> 11).toNat : Int) = (x.toNat : Int) / 2048 := by rw [UInt32.toNat_shiftRight]; simp [Nat.shiftRight_eq_div_pow]
  unfold iw; rw [e, shift_shr_any _ _ _ _ (by decide)]; rfl
theorem shr32_13 (x : UInt32) (yk : IntKind) : Op.shift .shr .u32 (iw x) yk 13 = pure (.int .u32 (iw (x >>> 13))) := by
  have e : ((x >>> 13).toNat : Int) = (x.toNat : Int) / 8192 := by rw [UInt32.toNat_shiftRight]; simp [Nat.shiftRight_eq_div_pow]
  unfold iw; rw [e, shift_shr_any _ _ _ _ (by decide)]; rfl
theorem shr32_16 (x : UInt32) (yk : IntKind) : Op.shift .shr .u32 (iw x) yk 16 = pure (.int .u32 (iw (x >>> 16))) := by
  have e : ((x >>> 16).toNat : Int) = (x.toNat : Int) / 65536 := by rw [UInt32.toNat_shiftRight]; simp [Nat.shiftRight_eq_div_pow]
  unfold iw; rw [e, shift_shr_any _ _ _ _ (by decide)]; rfl
theorem shr32_17 (x : UInt32) (yk : IntKind) : Op.shift .shr .u32 (iw x) yk 17 = pure (.int .u32 (iw (x >>> 17))) := by
  have e : ((x >>> 17).toNat : Int) = (x.toNat : Int) / 131072 := by rw [UInt32.toNat_shiftRight]; simp [Nat.shiftRight_eq_div_pow]
  unfold iw; rw [e, shift_shr_any _ _ _ _ (by decide)]; rfl
theorem shr32_18 (x : UInt32) (yk : IntKind) : Op.shift .shr .u32 (iw x) yk 18 = pure (.int .u32 (iw (x >>> 18))) := by
  have e : ((x >>> 18).toNat : Int) = (x.toNat : Int) / 262144 := by rw [UInt32.toNat_shiftRight]; simp [Nat.shiftRight_eq_div_pow]
  unfold iw; rw [e, shift_shr_any _ _ _ _ (by decide)]; rfl
theorem shr32_19 (x : UInt32) (yk : IntKind) : Op.shift .shr .u32 (iw x) yk 19 = pure (.int .u32 (iw (x >>> 19))) := by
  have e : ((x >>> 19).toNat : Int) = (x.toNat : Int) / 524288 := by rw [UInt32.toNat_shiftRight]; simp [Nat.shiftRight_eq_div_pow]
  unfold iw; rw [e, shift_shr_any _ _ _ _ (by decide)]; rfl
theorem shr32_22 (x : UInt32) (yk : IntKind) : Op.shift .shr .u32 (iw x) yk 22 = pure (.int .u32 (iw (x >>> 22))) := by
  have e : ((x >>> 22).toNat : Int) = (x.toNat : Int) / 4194304 := by rw [UInt32.toNat_shiftRight]; simp [Nat.shiftRight_eq_div_pow]
  unfold iw; rw [e, shift_shr_any _ _ _ _ (by decide)]; rfl
theorem shr32_24 (x : UInt32) (yk : IntKind) : Op.shift .shr .u32 (iw x) yk 24 = pure (.int .u32 (iw (x >>> 24))) := by
  have e : ((x >>> 24).toNat : Int) = (x.toNat : Int) / 16777216 := by rw [UInt32.toNat_shiftRight]; simp [Nat.shiftRight_eq_div_pow]
  unfold iw; rw [e, shift_shr_any _ _ _ _ (by decide)]; rfl
theorem shr32_25 (x : UInt32) (yk : IntKind) : Op.shift .shr .u32 (iw x) yk 25 = pure (.int .u32 (iw (x >>> 25))) := by
  have e : ((x >>> 25).toNat : Int) = (x.toNat : Int) / 33554432 := by rw [UInt32.toNat_shiftRight]; simp [Nat.shiftRight_eq_div_pow]
  unfold iw; rw [e, shift_shr_any _ _ _ _ (by decide)]; rfl
theorem shl32_8 (x : UInt32) (yk : IntKind) : Op.shift .shl .u32 (iw x) yk 8 = pure (.int .u32 (iw (x <<< 8))) := by
  simp only [Op.shift, iw]; simp [IntKind.bits, UInt32.toNat_shiftLeft, Nat.shiftLeft_eq, IntKind.wrap_u32']
theorem shl32_16 (x : UInt32) (yk : IntKind) : Op.shift .shl .u32 (iw x) yk 16 = pure (.int .u32 (iw (x <<< 16))) := by
  simp only [Op.shift, iw]; simp [IntKind.bits, UInt32.toNat_shiftLeft, Nat.shiftLeft_eq, IntKind.wrap_u32']
theorem shl32_24 (x : UInt32) (yk : IntKind) : Op.shift .shl .u32 (iw x) yk 24 = pure (.int .u32 (iw (x <<< 24))) := by
  simp only [Op.shift, iw]; simp [IntKind.bits, UInt32.toNat_shiftLeft, Nat.shiftLeft_eq, IntKind.wrap_u32']
theorem shl32_30 (x : UInt32) (yk : IntKind) : Op.shift .shl .u32 (iw x) yk 30 = pure (.int .u32 (iw (x <<< 30))) := by
  simp only [Op.shift, iw]; simp [IntKind.bits, UInt32.toNat_shiftLeft, Nat.shiftLeft_eq, IntKind.wrap_u32']
theorem shl32_26 (x : UInt32) (yk : IntKind) : Op.shift .shl .u32 (iw x) yk 26 = pure (.int .u32 (iw (x <<< 26))) := by
  simp only [Op.shift, iw]; simp [IntKind.bits, UInt32.toNat_shiftLeft, Nat.shiftLeft_eq, IntKind.wrap_u32']
theorem shl32_21 (x : UInt32) (yk : IntKind) : Op.shift .shl .u32 (iw x) yk 21 = pure (.int .u32 (iw (x <<< 21))) := by
  simp only [Op.shift, iw]; simp [IntKind.bits, UInt32.toNat_shiftLeft, Nat.shiftLeft_eq, IntKind.wrap_u32']
theorem shl32_7 (x : UInt32) (yk : IntKind) : Op.shift .shl .u32 (iw x) yk 7 = pure (.int .u32 (iw (x <<< 7))) := by
  simp only [Op.shift, iw]; simp [IntKind.bits, UInt32.toNat_shiftLeft, Nat.shiftLeft_eq, IntKind.wrap_u32']
theorem shl32_10 (x : UInt32) (yk : IntKind) : Op.shift .shl .u32 (iw x) yk 10 = pure (.int .u32 (iw (x <<< 10))) := by
  simp only [Op.shift, iw]; simp [IntKind.bits, UInt32.toNat_shiftLeft, Nat.shiftLeft_eq, IntKind.wrap_u32']
theorem shl32_19 (x : UInt32) (yk : IntKind) : Op.shift .shl .u32 (iw x) yk 19 = pure (.int .u32 (iw (x <<< 19))) := by
  simp only [Op.shift, iw]; simp [IntKind.bits, UInt32.toNat_shiftLeft, Nat.shiftLeft_eq, IntKind.wrap_u32']
theorem shl32_15 (x : UInt32) (yk : IntKind) : Op.shift .shl .u32 (iw x) yk 15 = pure (.int .u32 (iw (x <<< 15))) := by
  simp only [Op.shift, iw]; simp [IntKind.bits, UInt32.toNat_shiftLeft, Nat.shiftLeft_eq, IntKind.wrap_u32']
theorem shl32_14 (x : UInt32) (yk : IntKind) : Op.shift .shl .u32 (iw x) yk 14 = pure (.int .u32 (iw (x <<< 14))) := by
  simp only [Op.shift, iw]; simp [IntKind.bits, UInt32.toNat_shiftLeft, Nat.shiftLeft_eq, IntKind.wrap_u32']
theorem shl32_13 (x : UInt32) (yk : IntKind) : Op.shift .shl .u32 (iw x) yk 13 = pure (.int .u32 (iw (x <<< 13))) := by
  simp only [Op.shift, iw]; simp [IntKind.bits, UInt32.toNat_shiftLeft, Nat.shiftLeft_eq, IntKind.wrap_u32']
theorem shl32_25 (x : UInt32) (yk : IntKind) : Op.shift .shl .u32 (iw x) yk 25 = pure (.int .u32 (iw (x <<< 25))) := by
  simp only [Op.shift, iw]; simp [IntKind.bits, UInt32.toNat_shiftLeft, Nat.shiftLeft_eq, IntKind.wrap_u32']
theorem shr64_8 (x : UInt64) (yk : IntKind) : Op.shift .shr .u64 (iq x) yk 8 = pure (.int .u64 (iq (x >>> 8))) := by
  have e : ((x >>> 8).toNat : Int) = (x.toNat : Int) / 256 := by rw [UInt64.toNat_shiftRight]; simp [Nat.shiftRight_eq_div_pow]
  unfold iq; rw [e, shift_shr_any _ _ _ _ (by decide)]; rfl
theorem shr64_16 (x : UInt64) (yk : IntKind) : Op.shift .shr .u64 (iq x) yk 16 = pure (.int .u64 (iq (x >>> 16))) := by
  have e : ((x >>> 16).toNat : Int) = (x.toNat : Int) / 65536 := by rw [UInt64.toNat_shiftRight]; simp [Nat.shiftRight_eq_div_pow]
  unfold iq; rw [e, shift_shr_any _ _ _ _ (by decide)]; rfl
theorem shr64_24 (x : UInt64) (yk : IntKind) : Op.shift .shr .u64 (iq x) yk 24 = pure (.int .u64 (iq (x >>> 24))) := by
  have e : ((x >>> 24).toNat : Int) = (x.toNat : Int) / 16777216 := by rw [UInt64.toNat_shiftRight]; simp [Nat.shiftRight_eq_div_pow]
  unfold iq; rw [e, shift_shr_any _ _ _ _ (by decide)]; rfl
theorem shr64_32 (x : UInt64) (yk : IntKind) : Op.shift .shr .u64 (iq x) yk 32 = pure (.int .u64 (iq (x >>> 32))) := by
  have e : ((x >>> 32).toNat : Int) = (x.toNat : Int) / 4294967296 := by rw [UInt64.toNat_shiftRight]; simp [Nat.shiftRight_eq_div_pow]
  unfold iq; rw [e, shift_shr_any _ _ _ _ (by decide)]; rfl
theorem shr64_40 (x : UInt64) (yk : IntKind) : Op.shift .shr .u64 (iq x) yk 40 = pure (.int .u64 (iq (x >>> 40))) := by
  have e : ((x >>> 40).toNat : Int) = (x.toNat : Int) / 1099511627776 := by rw [UInt64.toNat_shiftRight]; simp [Nat.shiftRight_eq_div_pow]
  unfold iq; rw [e, shift_shr_any _ _ _ _ (by decide)]; rfl
theorem shr64_48 (x : UInt64) (yk : IntKind) : Op.shift .shr .u64 (iq x) yk 48 = pure (.int .u64 (iq (x >>> 48))) := by
  have e : ((x >>> 48).toNat : Int) = (x.toNat : Int) / 281474976710656 := by rw [UInt64.toNat_shiftRight]; simp [Nat.shiftRight_eq_div_pow]
  unfold iq; rw [e, shift_shr_any _ _ _ _ (by decide)]; rfl
theorem shr64_56 (x : UInt64) (yk : IntKind) : Op.shift .shr .u64 (iq x) yk 56 = pure (.int .u64 (iq (x >>> 56))) := by
  have e : ((x >>> 56).toNat : Int) = (x.toNat : Int) / 72057594037927936 := by rw [UInt64.toNat_shiftRight]; simp [Nat.shiftRight_eq_div_pow]
  unfold iq; rw [e, shift_shr_any _ _ _ _ (by decide)]; rfl
theorem shr64_0 (x : UInt64) (yk : IntKind) : Op.shift .shr .u64 (iq x) yk 0 = pure (.int .u64 (iq x)) := by
  rw [shift_shr_any _ _ _ _ (by decide)]; simp
end Ar
end Go.Proofs.Ytgomodhhomekpaa
