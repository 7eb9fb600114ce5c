/-
  A part of what this claim leans on: Pure, Ar, Wd, Frame, Qt, Ow, Or, Lw, Rot, Bi, Bl, Bo. No conditions of its own.
-/
import Derived.WalkKit
import Derived.Test.YtgomodhhomekpaaProg
import Derived.Lib.Hide
import Derived.Deep.QuietTactic
import Derived.BigQuiet
import Derived.StillTailTactics
import Derived.Laws.CopyOwn
/-
  The hash, HMAC, HKDF and PBKDF2 as plain functions on lists of bytes. No program in sight.
-/
namespace Go.Proofs.Ytgomodhhomekpaa
namespace Pu

abbrev By := List UInt8

/-! ### SHA-256 -/
def rotr (x : UInt32) (n : UInt32) : UInt32 := (x >>> n) ||| (x <<< (32 - n))

structure S8 where
  a : UInt32
  b : UInt32
  c : UInt32
  d : UInt32
  e : UInt32
  f : UInt32
  g : UInt32
  h : UInt32

def word (a b c d : UInt8) : UInt32 := a.toUInt32 <<< 24 ||| b.toUInt32 <<< 16 ||| c.toUInt32 <<< 8 ||| d.toUInt32

/-- The next word of the schedule behind those of ws. -/
def wNext (ws : List UInt32) (blk : By) : UInt32 :=
  if ws.length < 16 then word (blk.getD (4 * ws.length) 0) (blk.getD (4 * ws.length + 1) 0) (blk.getD (4 * ws.length + 2) 0) (blk.getD (4 * ws.length + 3) 0)
  else
    (rotr (ws.getD (ws.length - 2) 0) 17 ^^^ rotr (ws.getD (ws.length - 2) 0) 19 ^^^ ws.getD (ws.length - 2) 0 >>> 10) + ws.getD (ws.length - 7) 0
      + (rotr (ws.getD (ws.length - 15) 0) 7 ^^^ rotr (ws.getD (ws.length - 15) 0) 18 ^^^ ws.getD (ws.length - 15) 0 >>> 3) + ws.getD (ws.length - 16) 0

def sched (blk : By) : Nat → List UInt32
  | 0 => []
  | n + 1 => sched blk n ++ [wNext (sched blk n) blk]

def W (blk : By) (i : Nat) : UInt32 := wNext (sched blk i) blk

theorem sched_length (blk : By) (n : Nat) : (sched blk n).length = n := by
  induction n with
  | zero => rfl
  | succ n ih => simp [sched, ih]

theorem sched_get (blk : By) (n i : Nat) (h : i < n) : (sched blk n).getD i 0 = W blk i := by
  induction n with
  | zero => omega
  | succ n ih =>
    by_cases hi : i < n
    · simp only [sched, List.getD_eq_getElem?_getD] at ih ⊢
      rw [List.getElem?_append_left (by rw [sched_length]; exact hi)]
      exact ih hi
    · have : i = n := by omega
      subst this
      simp [sched, List.getD_eq_getElem?_getD, sched_length, W]

def rnd (s : S8) (k w : UInt32) : S8 :=
  let t1 := s.h + (rotr s.e 6 ^^^ rotr s.e 11 ^^^ rotr s.e 25) + ((s.e &&& s.f) ^^^ (~~~s.e &&& s.g)) + k + w
  let t2 := (rotr s.a 2 ^^^ rotr s.a 13 ^^^ rotr s.a 22) + ((s.a &&& s.b) ^^^ (s.a &&& s.c) ^^^ (s.b &&& s.c))
  ⟨t1 + t2, s.a, s.b, s.c, s.d + t1, s.e, s.f, s.g⟩

/-- n rounds over a block, with the constants kt. -/
def rounds (kt : List UInt32) (blk : By) (h : S8) : Nat → S8
  | 0 => h
  | n + 1 => rnd (rounds kt blk h n) (kt.getD n 0) (W blk n)

def S8.add (x y : S8) : S8 := ⟨x.a + y.a, x.b + y.b, x.c + y.c, x.d + y.d, x.e + y.e, x.f + y.f, x.g + y.g, x.h + y.h⟩

def comp (kt : List UInt32) (h : S8) (blk : By) : S8 := h.add (rounds kt blk h 64)

def blocksN (kt : List UInt32) : Nat → S8 → By → S8
  | 0, h, _ => h
  | n + 1, h, l => blocksN kt n (comp kt h (l.take 64)) (l.drop 64)

/-- All whole blocks of l taken in. -/
def blocks (kt : List UInt32) (h : S8) (l : By) : S8 := blocksN kt (l.length / 64) h l

/-- What is left behind the whole blocks. -/
def rest (l : By) : By := l.drop (64 * (l.length / 64))

def init : S8 := ⟨0x6A09E667, 0xBB67AE85, 0x3C6EF372, 0xA54FF53A, 0x510E527F, 0x9B05688C, 0x1F83D9AB, 0x5BE0CD19⟩

def be32 (x : UInt32) : By := [(x >>> 24).toUInt8, (x >>> 16).toUInt8, (x >>> 8).toUInt8, x.toUInt8]
def be64 (x : UInt64) : By := [(x >>> 56).toUInt8, (x >>> 48).toUInt8, (x >>> 40).toUInt8, (x >>> 32).toUInt8, (x >>> 24).toUInt8, (x >>> 16).toUInt8, (x >>> 8).toUInt8, x.toUInt8]
def S8.bytes (s : S8) : By := be32 s.a ++ be32 s.b ++ be32 s.c ++ be32 s.d ++ be32 s.e ++ be32 s.f ++ be32 s.g ++ be32 s.h

def padN (n : Nat) : Nat := if n % 64 < 56 then 56 - n % 64 else 64 + 56 - n % 64
/-- The padding of n bytes. -/
def padOf (n : Nat) : By := (0x80 :: List.replicate (padN n - 1) (0 : UInt8)) ++ be64 (UInt64.ofNat n <<< 3)

def sha (kt : List UInt32) (l : By) : By := (blocks kt init (l ++ padOf l.length)).bytes

theorem blocksN_add (kt : List UInt32) (m n : Nat) : ∀ (h : S8) (l : By), blocksN kt (m + n) h l = blocksN kt n (blocksN kt m h l) (l.drop (64 * m)) := by
  induction m with
  | zero => intro h l; simp [blocksN]
  | succ m ih =>
    intro h l
    rw [show m + 1 + n = (m + n) + 1 from by omega]
    simp only [blocksN]
    rw [ih, List.drop_drop]
    congr 2
    omega

theorem blocksN_take (kt : List UInt32) (n : Nat) : ∀ (h : S8) (l r : By), 64 * n ≤ l.length → blocksN kt n h (l ++ r) = blocksN kt n h l := by
  induction n with
  | zero => intro h l r _; rfl
  | succ n ih =>
    intro h l r hl
    simp only [blocksN]
    rw [List.take_append_of_le_length (by omega), List.drop_append_of_le_length (by omega)]
    exact ih _ _ _ (by simp; omega)

/-- Whole blocks first, the rest behind. -/
theorem blocks_append (kt : List UInt32) (h : S8) (l r : By) (hl : l.length % 64 = 0) : blocks kt h (l ++ r) = blocks kt (blocks kt h l) r := by
  unfold blocks
  have e : (l ++ r).length / 64 = l.length / 64 + r.length / 64 := by rw [List.length_append]; omega
  rw [e, blocksN_add, blocksN_take _ _ _ _ _ (by omega), List.drop_append_of_le_length (by omega), List.drop_of_length_le (by omega), List.nil_append]

theorem rest_length (l : By) : (rest l).length = l.length % 64 := by
  simp [rest]; omega

theorem take_rest (l : By) : l.take (64 * (l.length / 64)) ++ rest l = l := List.take_append_drop _ _

theorem blocks_short (kt : List UInt32) (h : S8) (l : By) (hl : l.length < 64) : blocks kt h l = h := by
  unfold blocks; rw [show l.length / 64 = 0 by omega]; rfl

theorem blocks_take (kt : List UInt32) (h : S8) (l : By) : blocks kt h (l.take (64 * (l.length / 64))) = blocks kt h l := by
  have e := blocks_append kt h (l.take (64 * (l.length / 64))) (rest l) (by rw [List.length_take]; omega)
  rw [take_rest] at e
  rw [e, blocks_short _ _ (rest l) (by rw [rest_length]; omega)]

/-- Bytes behind others: the rest of those first. -/
theorem blocks_more (kt : List UInt32) (h : S8) (l r : By) : blocks kt h (l ++ r) = blocks kt (blocks kt h l) (rest l ++ r) := by
  have e := blocks_append kt h (l.take (64 * (l.length / 64))) (rest l ++ r) (by rw [List.length_take]; omega)
  rw [← List.append_assoc, take_rest] at e
  rw [e, blocks_take]

theorem rest_append (l r : By) (hl : l.length % 64 = 0) : rest (l ++ r) = rest r := by
  unfold rest
  have e : 64 * ((l ++ r).length / 64) = l.length + 64 * (r.length / 64) := by rw [List.length_append]; omega
  rw [e, List.drop_append]
  simp
theorem rest_more (l r : By) : rest (l ++ r) = rest (rest l ++ r) := by
  have e := rest_append (l.take (64 * (l.length / 64))) (rest l ++ r) (by rw [List.length_take]; omega)
  rw [← List.append_assoc, take_rest] at e
  exact e
theorem rest_short (l : By) (hl : l.length < 64) : rest l = l := by
  unfold rest; rw [show l.length / 64 = 0 by omega]; rfl

theorem blocks_one (kt : List UInt32) (h : S8) (l : By) (hl : l.length = 64) : blocks kt h l = comp kt h l := by
  unfold blocks; rw [hl]; simp [blocksN, List.take_of_length_le (Nat.le_of_eq hl)]

theorem padOf_length (n : Nat) : (n + (padOf n).length) % 64 = 0 := by
  simp [padOf, be64, padN]; split <;> omega

/-! ### The hash that is handed in -/
def ownInit (size : Nat) : By := (List.range size).map UInt8.ofNat
def ownStep (size : Nat) (st : By) (n : Nat) (b : UInt8) : By :=
  let v := 31 * st.getD (n % size) 0 + b + UInt8.ofNat n
  let st' := st.set (n % size) v
  st'.set ((n + 1) % size) (st'.getD ((n + 1) % size) 0 ^^^ st'.getD (n % size) 0)
def ownFrom (size : Nat) : By → Nat → By → By
  | st, _, [] => st
  | st, n, b :: l => ownFrom size (ownStep size st n b) (n + 1) l
def ownState (size : Nat) (l : By) : By := ownFrom size (ownInit size) 0 l
def own (size : Nat) (l : By) : By := (ownState size l).map (· + UInt8.ofNat l.length)

theorem ownFrom_append (size : Nat) (l r : By) : ∀ (st : By) (n : Nat), ownFrom size st n (l ++ r) = ownFrom size (ownFrom size st n l) (n + l.length) r := by
  induction l with
  | nil => intro st n; simp [ownFrom]
  | cons b l ih =>
    intro st n
    simp only [List.cons_append, ownFrom, ih, List.length_cons]
    congr 1; omega
theorem ownState_append (size : Nat) (l r : By) : ownState size (l ++ r) = ownFrom size (ownState size l) l.length r := by
  simp [ownState, ownFrom_append]
theorem ownState_snoc (size : Nat) (l : By) (b : UInt8) : ownState size (l ++ [b]) = ownStep size (ownState size l) l.length b := by
  rw [ownState_append]; rfl
theorem ownStep_length (size : Nat) (st : By) (n : Nat) (b : UInt8) : (ownStep size st n b).length = st.length := by simp [ownStep]
theorem ownFrom_length (size : Nat) (l : By) : ∀ (st : By) (n : Nat), (ownFrom size st n l).length = st.length := by
  induction l with
  | nil => intro st n; rfl
  | cons b l ih => intro st n; simp [ownFrom, ih, ownStep_length]
theorem ownState_length (size : Nat) (l : By) : (ownState size l).length = size := by simp [ownState, ownFrom_length, ownInit]

/-! ### A hash -/
inductive HK where
  | sha (kt : List UInt32)
  | own (size block : Nat)
def HK.size : HK → Nat
  | .sha _ => 32
  | .own s _ => s
def HK.block : HK → Nat
  | .sha _ => 64
  | .own _ b => b
def HK.hash : HK → By → By
  | .sha kt => Pu.sha kt
  | .own s _ => Pu.own s
def HK.ok : HK → Prop
  | .sha _ => True
  | .own s b => 1 ≤ s ∧ s ≤ 16 ∧ s ≤ b ∧ b ≤ 32
/-- The hash that the three numbers name. -/
def kindOf (kt : List UInt32) (k s b : Int) : HK := if k = 1 then .sha kt else if s < 1 ∨ 16 < s ∨ b < s ∨ 32 < b then .own 1 16 else .own s.toNat b.toNat

theorem S8.bytes_length (s : S8) : s.bytes.length = 32 := rfl
theorem HK.hash_length (k : HK) (l : By) : (k.hash l).length = k.size := by
  cases k with
  | sha kt => exact S8.bytes_length _
  | own s b => simp [HK.hash, Pu.own, HK.size, ownState_length]
theorem kindOf_ok (kt : List UInt32) (k s b : Int) : (kindOf kt k s b).ok := by
  unfold kindOf
  split
  · trivial
  · split
    · simp [HK.ok]
    · simp only [HK.ok]; omega
theorem HK.ok.size_pos {k : HK} (h : k.ok) : 1 ≤ k.size := by cases k <;> simp_all [HK.ok, HK.size]
theorem HK.ok.size_le {k : HK} (h : k.ok) : k.size ≤ 32 := by cases k <;> simp_all [HK.ok, HK.size]; omega
theorem HK.ok.block_le {k : HK} (h : k.ok) : k.block ≤ 64 := by cases k <;> simp_all [HK.ok, HK.block]; omega
theorem HK.ok.size_le_block {k : HK} (h : k.ok) : k.size ≤ k.block := by cases k <;> simp_all [HK.ok, HK.block, HK.size]

/-! ### HMAC, HKDF, PBKDF2 -/
def keyOf (k : HK) (key : By) : By := if k.block < key.length then k.hash key else key
def padKey (k : HK) (key : By) : By := keyOf k key ++ List.replicate (k.block - (keyOf k key).length) 0
def ipad (k : HK) (key : By) : By := (padKey k key).map (· ^^^ 0x36)
def opad (k : HK) (key : By) : By := (padKey k key).map (· ^^^ 0x5c)
def mac (k : HK) (key data : By) : By := k.hash (opad k key ++ k.hash (ipad k key ++ data))

theorem mac_length (k : HK) (key data : By) : (mac k key data).length = k.size := k.hash_length _
theorem keyOf_length {k : HK} (h : k.ok) (key : By) : (keyOf k key).length ≤ k.block := by
  unfold keyOf; split
  · rw [k.hash_length]; exact h.size_le_block
  · omega
theorem padKey_length {k : HK} (h : k.ok) (key : By) : (padKey k key).length = k.block := by
  have := keyOf_length h key
  simp [padKey]; omega
theorem ipad_length {k : HK} (h : k.ok) (key : By) : (ipad k key).length = k.block := by simp [ipad, padKey_length h]
theorem opad_length {k : HK} (h : k.ok) (key : By) : (opad k key).length = k.block := by simp [opad, padKey_length h]

def extract (k : HK) (secret salt : By) : By := mac k (if salt = [] then List.replicate k.size 0 else salt) secret

def expT (k : HK) (prk info : By) : Nat → By
  | 0 => []
  | n + 1 => mac k prk (expT k prk info n ++ info ++ [UInt8.ofNat (n + 1)])
def expAll (k : HK) (prk info : By) : Nat → By
  | 0 => []
  | n + 1 => expAll k prk info n ++ expT k prk info (n + 1)
theorem expT_length (k : HK) (prk info : By) (n : Nat) : (expT k prk info (n + 1)).length = k.size := mac_length _ _ _
theorem expAll_length (k : HK) (prk info : By) (n : Nat) : (expAll k prk info n).length = n * k.size := by
  induction n with
  | zero => simp [expAll]
  | succ n ih => simp [expAll, ih, expT_length, Nat.add_mul]
def expand (k : HK) (prk info : By) (n : Nat) : By := (expAll k prk info ((n + k.size - 1) / k.size)).take n

def be4 (n : Nat) : By := [UInt8.ofNat (n / 16777216), UInt8.ofNat (n / 65536), UInt8.ofNat (n / 256), UInt8.ofNat n]
def xorBy (a b : By) : By := List.zipWith (· ^^^ ·) a b
def derU (k : HK) (pw salt : By) (i : Nat) : Nat → By
  | 0 => mac k pw (salt ++ be4 i)
  | n + 1 => mac k pw (derU k pw salt i n)
def derF (k : HK) (pw salt : By) (i : Nat) : Nat → By
  | 0 => derU k pw salt i 0
  | n + 1 => xorBy (derF k pw salt i n) (derU k pw salt i (n + 1))
theorem derU_length (k : HK) (pw salt : By) (i n : Nat) : (derU k pw salt i n).length = k.size := by cases n <;> exact mac_length _ _ _
theorem derF_length (k : HK) (pw salt : By) (i n : Nat) : (derF k pw salt i n).length = k.size := by
  induction n with
  | zero => exact derU_length _ _ _ _ _
  | succ n ih => simp [derF, xorBy, ih, derU_length]
/-- The blocks 1 .. n, each of 1 + m rounds. -/
def derAll (k : HK) (pw salt : By) (m : Nat) : Nat → By
  | 0 => []
  | n + 1 => derAll k pw salt m n ++ derF k pw salt (n + 1) m
theorem derAll_length (k : HK) (pw salt : By) (m n : Nat) : (derAll k pw salt m n).length = n * k.size := by
  induction n with
  | zero => simp [derAll]
  | succ n ih => simp [derAll, ih, derF_length, Nat.add_mul]
/-- PBKDF2 of 1 + m rounds. -/
def derive (k : HK) (pw salt : By) (m n : Nat) : By := (derAll k pw salt m ((n + k.size - 1) / k.size)).take n

end Pu
end Go.Proofs.Ytgomodhhomekpaa

/-
  The model's integer operations at words: each gives the word that Lean's own UInt8, UInt32, UInt64 give. A word's number stands behind a name of its own, which simp does not open.
-/
namespace Go.Proofs.Ytgomodhhomekpaa
namespace Ar
/-- The number of a word: names that the walk does not open. -/
def ib (x : UInt8) : Int := (x.toNat : Int)
def iw (x : UInt32) : Int := (x.toNat : Int)
def iq (x : UInt64) : Int := (x.toNat : Int)
theorem ib_nn (x : UInt8) : 0 ≤ ib x := Int.natCast_nonneg _
theorem iw_nn (x : UInt32) : 0 ≤ iw x := Int.natCast_nonneg _
theorem iq_nn (x : UInt64) : 0 ≤ iq x := Int.natCast_nonneg _
theorem ib_lt (x : UInt8) : ib x < 256 := by have h : x.toNat < 256 := x.toNat_lt; unfold ib; omega
theorem iw_lt (x : UInt32) : iw x < 4294967296 := by have h : x.toNat < 4294967296 := x.toNat_lt; unfold iw; omega
theorem iq_lt (x : UInt64) : iq x < 18446744073709551616 := by have h : x.toNat < 18446744073709551616 := x.toNat_lt; unfold iq; omega

theorem lt8 (x : UInt8) : x.toNat < 256 := x.toNat_lt
theorem ib_inj {a b : UInt8} (h : ib a = ib b) : a = b := by unfold ib at h; exact UInt8.toNat_inj.1 (by omega)
theorem wrap_add8 (a b : UInt8) : IntKind.u8.wrap (ib a + ib b) = ib (a + b) := by
  unfold ib; rw [IntKind.wrap_u8', UInt8.toNat_add]; omega
theorem wrap_sub8 (a b : UInt8) : IntKind.u8.wrap (ib a - ib b) = ib (a - b) := by
  have h1 := lt8 a; have h2 := lt8 b
  unfold ib; rw [IntKind.wrap_u8', UInt8.toNat_sub]; omega
theorem wrap_of8 (n : Nat) : IntKind.u8.wrap (n : Int) = ib (UInt8.ofNat n) := by
  unfold ib; rw [IntKind.wrap_u8', UInt8.toNat_ofNat']; omega
theorem wrap_self8 (a : UInt8) : IntKind.u8.wrap (ib a) = ib a := by
  have h1 := lt8 a
  unfold ib; rw [IntKind.wrap_u8']; omega
theorem bits_and8 (a b : UInt8) : bits .and .u8 (ib a) (ib b) = ib (a &&& b) := by
  unfold ib; rw [u8_and_nat _ _ (lt8 a) (lt8 b), UInt8.toNat_and]
theorem bits_or8 (a b : UInt8) : bits .or .u8 (ib a) (ib b) = ib (a ||| b) := by
  unfold ib; rw [u8_or_nat _ _ (lt8 a) (lt8 b), UInt8.toNat_or]
theorem bits_xor8 (a b : UInt8) : bits .xor .u8 (ib a) (ib b) = ib (a ^^^ b) := by
  unfold ib; rw [u8_xor_nat _ _ (lt8 a) (lt8 b), UInt8.toNat_xor]
theorem lt32 (x : UInt32) : x.toNat < 4294967296 := x.toNat_lt
theorem iw_inj {a b : UInt32} (h : iw a = iw b) : a = b := by unfold iw at h; exact UInt32.toNat_inj.1 (by omega)
theorem wrap_add32 (a b : UInt32) : IntKind.u32.wrap (iw a + iw b) = iw (a + b) := by
  unfold iw; rw [IntKind.wrap_u32', UInt32.toNat_add]; omega
theorem wrap_sub32 (a b : UInt32) : IntKind.u32.wrap (iw a - iw b) = iw (a - b) := by
  have h1 := lt32 a; have h2 := lt32 b
  unfold iw; rw [IntKind.wrap_u32', UInt32.toNat_sub]; omega
theorem wrap_of32 (n : Nat) : IntKind.u32.wrap (n : Int) = iw (UInt32.ofNat n) := by
  unfold iw; rw [IntKind.wrap_u32', UInt32.toNat_ofNat']; omega
theorem wrap_self32 (a : UInt32) : IntKind.u32.wrap (iw a) = iw a := by
  have h1 := lt32 a
  unfold iw; rw [IntKind.wrap_u32']; omega
theorem bits_and32 (a b : UInt32) : bits .and .u32 (iw a) (iw b) = iw (a &&& b) := by
  unfold iw; rw [u32_and_nat _ _ (lt32 a) (lt32 b), UInt32.toNat_and]
theorem bits_or32 (a b : UInt32) : bits .or .u32 (iw a) (iw b) = iw (a ||| b) := by
  unfold iw; rw [u32_or_nat _ _ (lt32 a) (lt32 b), UInt32.toNat_or]
theorem bits_xor32 (a b : UInt32) : bits .xor .u32 (iw a) (iw b) = iw (a ^^^ b) := by
  unfold iw; rw [u32_xor_nat _ _ (lt32 a) (lt32 b), UInt32.toNat_xor]
theorem lt64 (x : UInt64) : x.toNat < 18446744073709551616 := x.toNat_lt
theorem iq_inj {a b : UInt64} (h : iq a = iq b) : a = b := by unfold iq at h; exact UInt64.toNat_inj.1 (by omega)
theorem wrap_add64 (a b : UInt64) : IntKind.u64.wrap (iq a + iq b) = iq (a + b) := by
  unfold iq; rw [IntKind.wrap_u64, UInt64.toNat_add]; omega
theorem wrap_sub64 (a b : UInt64) : IntKind.u64.wrap (iq a - iq b) = iq (a - b) := by
  have h1 := lt64 a; have h2 := lt64 b
  unfold iq; rw [IntKind.wrap_u64, UInt64.toNat_sub]; omega
theorem wrap_of64 (n : Nat) : IntKind.u64.wrap (n : Int) = iq (UInt64.ofNat n) := by
  unfold iq; rw [IntKind.wrap_u64, UInt64.toNat_ofNat']; omega
theorem wrap_self64 (a : UInt64) : IntKind.u64.wrap (iq a) = iq a := by
  have h1 := lt64 a
  unfold iq; rw [IntKind.wrap_u64]; omega
theorem bits_and64 (a b : UInt64) : bits .and .u64 (iq a) (iq b) = iq (a &&& b) := by
  unfold iq; rw [u64_and_nat _ _ (lt64 a) (lt64 b), UInt64.toNat_and]
theorem bits_or64 (a b : UInt64) : bits .or .u64 (iq a) (iq b) = iq (a ||| b) := by
  unfold iq; rw [u64_or_nat _ _ (lt64 a) (lt64 b), UInt64.toNat_or]
theorem bits_xor64 (a b : UInt64) : bits .xor .u64 (iq a) (iq b) = iq (a ^^^ b) := by
  unfold iq; rw [u64_xor_nat _ _ (lt64 a) (lt64 b), UInt64.toNat_xor]
theorem wrap_mul31 (a : UInt8) : IntKind.u8.wrap (31 * ib a) = ib (31 * a) := by
  unfold ib; rw [IntKind.wrap_u8', UInt8.toNat_mul]; simp
theorem bits_not32 (a : UInt32) : bits .xor .u32 4294967295 (iw a) = iw (~~~a) := by
  have h : (4294967295 : Int) = iw (-1 : UInt32) := by decide
  rw [h, bits_xor32, UInt32.neg_one_xor]
theorem bits_not32' (a : UInt32) : bits .xor .u32 IntKind.u32.max (iw a) = iw (~~~a) := bits_not32 a
theorem byte32_wrap (a : UInt8) : IntKind.u32.wrap (ib a) = iw a.toUInt32 := by
  unfold ib; rw [wrap_of32]; simp [iw]
theorem low32 (a : UInt32) : IntKind.u8.wrap (iw a) = ib a.toUInt8 := by
  unfold iw; rw [wrap_of8]; simp [ib]
theorem low64 (a : UInt64) : IntKind.u8.wrap (iq a) = ib a.toUInt8 := by
  unfold iq; rw [wrap_of8]; simp [ib]
theorem xor8_36 (a : UInt8) : bits .xor .u8 (ib a) 54 = ib (a ^^^ 0x36) := by
  rw [show (54 : Int) = ib 0x36 from by decide]; exact bits_xor8 a _
theorem xor8_5c (a : UInt8) : bits .xor .u8 (ib a) 92 = ib (a ^^^ 0x5c) := by
  rw [show (92 : Int) = ib 0x5c from by decide]; exact bits_xor8 a _

theorem shr32_3 (x : UInt32) (yk : IntKind) : Op.shift .shr .u32 (iw x) yk 3 = pure (.int .u32 (iw (x >>> 3))) := by
  have e : ((x >>> 3).toNat : Int) = (x.toNat : Int) / 8 := by rw [UInt32.toNat_shiftRight]; simp [Nat.shiftRight_eq_div_pow]
  unfold iw; rw [e, shift_shr_any _ _ _ _ (by decide)]; rfl
theorem shr32_7 (x : UInt32) (yk : IntKind) : Op.shift .shr .u32 (iw x) yk 7 = pure (.int .u32 (iw (x >>> 7))) := by
  have e : ((x >>> 7).toNat : Int) = (x.toNat : Int) / 128 := by rw [UInt32.toNat_shiftRight]; simp [Nat.shiftRight_eq_div_pow]
  unfold iw; rw [e, shift_shr_any _ _ _ _ (by decide)]; rfl
theorem shr32_8 (x : UInt32) (yk : IntKind) : Op.shift .shr .u32 (iw x) yk 8 = pure (.int .u32 (iw (x >>> 8))) := by
  have e : ((x >>> 8).toNat : Int) = (x.toNat : Int) / 256 := by rw [UInt32.toNat_shiftRight]; simp [Nat.shiftRight_eq_div_pow]
  unfold iw; rw [e, shift_shr_any _ _ _ _ (by decide)]; rfl
theorem shr32_10 (x : UInt32) (yk : IntKind) : Op.shift .shr .u32 (iw x) yk 10 = pure (.int .u32 (iw (x >>> 10))) := by
  have e : ((x >>> 10).toNat : Int) = (x.toNat : Int) / 1024 := by rw [UInt32.toNat_shiftRight]; simp [Nat.shiftRight_eq_div_pow]
  unfold iw; rw [e, shift_shr_any _ _ _ _ (by decide)]; rfl
theorem shr32_2 (x : UInt32) (yk : IntKind) : Op.shift .shr .u32 (iw x) yk 2 = pure (.int .u32 (iw (x >>> 2))) := by
  have e : ((x >>> 2).toNat : Int) = (x.toNat : Int) / 4 := by rw [UInt32.toNat_shiftRight]; simp [Nat.shiftRight_eq_div_pow]
  unfold iw; rw [e, shift_shr_any _ _ _ _ (by decide)]; rfl
theorem shr32_6 (x : UInt32) (yk : IntKind) : Op.shift .shr .u32 (iw x) yk 6 = pure (.int .u32 (iw (x >>> 6))) := by
  have e : ((x >>> 6).toNat : Int) = (x.toNat : Int) / 64 := by rw [UInt32.toNat_shiftRight]; simp [Nat.shiftRight_eq_div_pow]
  unfold iw; rw [e, shift_shr_any _ _ _ _ (by decide)]; rfl
theorem shr32_11 (x : UInt32) (yk : IntKind) : Op.shift .shr .u32 (iw x) yk 11 = pure (.int .u32 (iw (x >>> 11))) := by
  have e : ((x >>> 11).toNat : Int) = (x.toNat : Int) / 2048 := by rw [UInt32.toNat_shiftRight]; simp [Nat.shiftRight_eq_div_pow]
  unfold iw; rw [e, shift_shr_any _ _ _ _ (by decide)]; rfl
theorem shr32_13 (x : UInt32) (yk : IntKind) : Op.shift .shr .u32 (iw x) yk 13 = pure (.int .u32 (iw (x >>> 13))) := by
  have e : ((x >>> 13).toNat : Int) = (x.toNat : Int) / 8192 := by rw [UInt32.toNat_shiftRight]; simp [Nat.shiftRight_eq_div_pow]
  unfold iw; rw [e, shift_shr_any _ _ _ _ (by decide)]; rfl
theorem shr32_16 (x : UInt32) (yk : IntKind) : Op.shift .shr .u32 (iw x) yk 16 = pure (.int .u32 (iw (x >>> 16))) := by
  have e : ((x >>> 16).toNat : Int) = (x.toNat : Int) / 65536 := by rw [UInt32.toNat_shiftRight]; simp [Nat.shiftRight_eq_div_pow]
  unfold iw; rw [e, shift_shr_any _ _ _ _ (by decide)]; rfl
theorem shr32_17 (x : UInt32) (yk : IntKind) : Op.shift .shr .u32 (iw x) yk 17 = pure (.int .u32 (iw (x >>> 17))) := by
  have e : ((x >>> 17).toNat : Int) = (x.toNat : Int) / 131072 := by rw [UInt32.toNat_shiftRight]; simp [Nat.shiftRight_eq_div_pow]
  unfold iw; rw [e, shift_shr_any _ _ _ _ (by decide)]; rfl
theorem shr32_18 (x : UInt32) (yk : IntKind) : Op.shift .shr .u32 (iw x) yk 18 = pure (.int .u32 (iw (x >>> 18))) := by
  have e : ((x >>> 18).toNat : Int) = (x.toNat : Int) / 262144 := by rw [UInt32.toNat_shiftRight]; simp [Nat.shiftRight_eq_div_pow]
  unfold iw; rw [e, shift_shr_any _ _ _ _ (by decide)]; rfl
theorem shr32_19 (x : UInt32) (yk : IntKind) : Op.shift .shr .u32 (iw x) yk 19 = pure (.int .u32 (iw (x >>> 19))) := by
  have e : ((x >>> 19).toNat : Int) = (x.toNat : Int) / 524288 := by rw [UInt32.toNat_shiftRight]; simp [Nat.shiftRight_eq_div_pow]
  unfold iw; rw [e, shift_shr_any _ _ _ _ (by decide)]; rfl
theorem shr32_22 (x : UInt32) (yk : IntKind) : Op.shift .shr .u32 (iw x) yk 22 = pure (.int .u32 (iw (x >>> 22))) := by
  have e : ((x >>> 22).toNat : Int) = (x.toNat : Int) / 4194304 := by rw [UInt32.toNat_shiftRight]; simp [Nat.shiftRight_eq_div_pow]
  unfold iw; rw [e, shift_shr_any _ _ _ _ (by decide)]; rfl
theorem shr32_24 (x : UInt32) (yk : IntKind) : Op.shift .shr .u32 (iw x) yk 24 = pure (.int .u32 (iw (x >>> 24))) := by
  have e : ((x >>> 24).toNat : Int) = (x.toNat : Int) / 16777216 := by rw [UInt32.toNat_shiftRight]; simp [Nat.shiftRight_eq_div_pow]
  unfold iw; rw [e, shift_shr_any _ _ _ _ (by decide)]; rfl
theorem shr32_25 (x : UInt32) (yk : IntKind) : Op.shift .shr .u32 (iw x) yk 25 = pure (.int .u32 (iw (x >>> 25))) := by
  have e : ((x >>> 25).toNat : Int) = (x.toNat : Int) / 33554432 := by rw [UInt32.toNat_shiftRight]; simp [Nat.shiftRight_eq_div_pow]
  unfold iw; rw [e, shift_shr_any _ _ _ _ (by decide)]; rfl
theorem shl32_8 (x : UInt32) (yk : IntKind) : Op.shift .shl .u32 (iw x) yk 8 = pure (.int .u32 (iw (x <<< 8))) := by
  simp only [Op.shift, iw]; simp [IntKind.bits, UInt32.toNat_shiftLeft, Nat.shiftLeft_eq, IntKind.wrap_u32']
theorem shl32_16 (x : UInt32) (yk : IntKind) : Op.shift .shl .u32 (iw x) yk 16 = pure (.int .u32 (iw (x <<< 16))) := by
  simp only [Op.shift, iw]; simp [IntKind.bits, UInt32.toNat_shiftLeft, Nat.shiftLeft_eq, IntKind.wrap_u32']
theorem shl32_24 (x : UInt32) (yk : IntKind) : Op.shift .shl .u32 (iw x) yk 24 = pure (.int .u32 (iw (x <<< 24))) := by
  simp only [Op.shift, iw]; simp [IntKind.bits, UInt32.toNat_shiftLeft, Nat.shiftLeft_eq, IntKind.wrap_u32']
theorem shl32_30 (x : UInt32) (yk : IntKind) : Op.shift .shl .u32 (iw x) yk 30 = pure (.int .u32 (iw (x <<< 30))) := by
  simp only [Op.shift, iw]; simp [IntKind.bits, UInt32.toNat_shiftLeft, Nat.shiftLeft_eq, IntKind.wrap_u32']
theorem shl32_26 (x : UInt32) (yk : IntKind) : Op.shift .shl .u32 (iw x) yk 26 = pure (.int .u32 (iw (x <<< 26))) := by
  simp only [Op.shift, iw]; simp [IntKind.bits, UInt32.toNat_shiftLeft, Nat.shiftLeft_eq, IntKind.wrap_u32']
theorem shl32_21 (x : UInt32) (yk : IntKind) : Op.shift .shl .u32 (iw x) yk 21 = pure (.int .u32 (iw (x <<< 21))) := by
  simp only [Op.shift, iw]; simp [IntKind.bits, UInt32.toNat_shiftLeft, Nat.shiftLeft_eq, IntKind.wrap_u32']
theorem shl32_7 (x : UInt32) (yk : IntKind) : Op.shift .shl .u32 (iw x) yk 7 = pure (.int .u32 (iw (x <<< 7))) := by
  simp only [Op.shift, iw]; simp [IntKind.bits, UInt32.toNat_shiftLeft, Nat.shiftLeft_eq, IntKind.wrap_u32']
theorem shl32_10 (x : UInt32) (yk : IntKind) : Op.shift .shl .u32 (iw x) yk 10 = pure (.int .u32 (iw (x <<< 10))) := by
  simp only [Op.shift, iw]; simp [IntKind.bits, UInt32.toNat_shiftLeft, Nat.shiftLeft_eq, IntKind.wrap_u32']
theorem shl32_19 (x : UInt32) (yk : IntKind) : Op.shift .shl .u32 (iw x) yk 19 = pure (.int .u32 (iw (x <<< 19))) := by
  simp only [Op.shift, iw]; simp [IntKind.bits, UInt32.toNat_shiftLeft, Nat.shiftLeft_eq, IntKind.wrap_u32']
theorem shl32_15 (x : UInt32) (yk : IntKind) : Op.shift .shl .u32 (iw x) yk 15 = pure (.int .u32 (iw (x <<< 15))) := by
  simp only [Op.shift, iw]; simp [IntKind.bits, UInt32.toNat_shiftLeft, Nat.shiftLeft_eq, IntKind.wrap_u32']
theorem shl32_14 (x : UInt32) (yk : IntKind) : Op.shift .shl .u32 (iw x) yk 14 = pure (.int .u32 (iw (x <<< 14))) := by
  simp only [Op.shift, iw]; simp [IntKind.bits, UInt32.toNat_shiftLeft, Nat.shiftLeft_eq, IntKind.wrap_u32']
theorem shl32_13 (x : UInt32) (yk : IntKind) : Op.shift .shl .u32 (iw x) yk 13 = pure (.int .u32 (iw (x <<< 13))) := by
  simp only [Op.shift, iw]; simp [IntKind.bits, UInt32.toNat_shiftLeft, Nat.shiftLeft_eq, IntKind.wrap_u32']
theorem shl32_25 (x : UInt32) (yk : IntKind) : Op.shift .shl .u32 (iw x) yk 25 = pure (.int .u32 (iw (x <<< 25))) := by
  simp only [Op.shift, iw]; simp [IntKind.bits, UInt32.toNat_shiftLeft, Nat.shiftLeft_eq, IntKind.wrap_u32']
theorem shr64_8 (x : UInt64) (yk : IntKind) : Op.shift .shr .u64 (iq x) yk 8 = pure (.int .u64 (iq (x >>> 8))) := by
  have e : ((x >>> 8).toNat : Int) = (x.toNat : Int) / 256 := by rw [UInt64.toNat_shiftRight]; simp [Nat.shiftRight_eq_div_pow]
  unfold iq; rw [e, shift_shr_any _ _ _ _ (by decide)]; rfl
theorem shr64_16 (x : UInt64) (yk : IntKind) : Op.shift .shr .u64 (iq x) yk 16 = pure (.int .u64 (iq (x >>> 16))) := by
  have e : ((x >>> 16).toNat : Int) = (x.toNat : Int) / 65536 := by rw [UInt64.toNat_shiftRight]; simp [Nat.shiftRight_eq_div_pow]
  unfold iq; rw [e, shift_shr_any _ _ _ _ (by decide)]; rfl
theorem shr64_24 (x : UInt64) (yk : IntKind) : Op.shift .shr .u64 (iq x) yk 24 = pure (.int .u64 (iq (x >>> 24))) := by
  have e : ((x >>> 24).toNat : Int) = (x.toNat : Int) / 16777216 := by rw [UInt64.toNat_shiftRight]; simp [Nat.shiftRight_eq_div_pow]
  unfold iq; rw [e, shift_shr_any _ _ _ _ (by decide)]; rfl
theorem shr64_32 (x : UInt64) (yk : IntKind) : Op.shift .shr .u64 (iq x) yk 32 = pure (.int .u64 (iq (x >>> 32))) := by
  have e : ((x >>> 32).toNat : Int) = (x.toNat : Int) / 4294967296 := by rw [UInt64.toNat_shiftRight]; simp [Nat.shiftRight_eq_div_pow]
  unfold iq; rw [e, shift_shr_any _ _ _ _ (by decide)]; rfl
theorem shr64_40 (x : UInt64) (yk : IntKind) : Op.shift .shr .u64 (iq x) yk 40 = pure (.int .u64 (iq (x >>> 40))) := by
  have e : ((x >>> 40).toNat : Int) = (x.toNat : Int) / 1099511627776 := by rw [UInt64.toNat_shiftRight]; simp [Nat.shiftRight_eq_div_pow]
  unfold iq; rw [e, shift_shr_any _ _ _ _ (by decide)]; rfl
theorem shr64_48 (x : UInt64) (yk : IntKind) : Op.shift .shr .u64 (iq x) yk 48 = pure (.int .u64 (iq (x >>> 48))) := by
  have e : ((x >>> 48).toNat : Int) = (x.toNat : Int) / 281474976710656 := by rw [UInt64.toNat_shiftRight]; simp [Nat.shiftRight_eq_div_pow]
  unfold iq; rw [e, shift_shr_any _ _ _ _ (by decide)]; rfl
theorem shr64_56 (x : UInt64) (yk : IntKind) : Op.shift .shr .u64 (iq x) yk 56 = pure (.int .u64 (iq (x >>> 56))) := by
  have e : ((x >>> 56).toNat : Int) = (x.toNat : Int) / 72057594037927936 := by rw [UInt64.toNat_shiftRight]; simp [Nat.shiftRight_eq_div_pow]
  unfold iq; rw [e, shift_shr_any _ _ _ _ (by decide)]; rfl
theorem shr64_0 (x : UInt64) (yk : IntKind) : Op.shift .shr .u64 (iq x) yk 0 = pure (.int .u64 (iq x)) := by
  rw [shift_shr_any _ _ _ _ (by decide)]; simp
end Ar
end Go.Proofs.Ytgomodhhomekpaa

/-
  Memory: what a block holds, what a call leaves alone, what a slice of bytes reads as.
-/
namespace Go.Proofs.Ytgomodhhomekpaa
open Go.RowKit Pu Ar

def vb (x : UInt8) : Value := .int .u8 (ib x)
def vw (x : UInt32) : Value := .int .u32 (iw x)

/-- Nothing but the blocks of S has turned; new ones may lie behind. -/
structure Tch (S : List Nat) (w w' : World) : Prop where
  os : w'.os = w.os
  tape : w'.tape = w.tape
  output : w'.output = w.output
  size : w.heap.size ≤ w'.heap.size
  block : ∀ k, k < w.heap.size → k ∉ S → w'.heap[k]? = w.heap[k]?

theorem Tch.refl (S : List Nat) (w : World) : Tch S w w := ⟨rfl, rfl, rfl, Nat.le_refl _, fun _ _ _ => rfl⟩
theorem Tch.trans {S : List Nat} {a b c : World} (h : Tch S a b) (k : Tch S b c) : Tch S a c :=
  ⟨k.os.trans h.os, k.tape.trans h.tape, k.output.trans h.output, Nat.le_trans h.size k.size,
   fun i hi hn => (k.block i (Nat.lt_of_lt_of_le hi h.size) hn).trans (h.block i hi hn)⟩
theorem Tch.mono {S T : List Nat} {w w' : World} (h : Tch S w w') (hs : ∀ k ∈ S, k ∈ T) : Tch T w w' :=
  ⟨h.os, h.tape, h.output, h.size, fun i hi hn => h.block i hi (fun hm => hn (hs i hm))⟩
/-- A second step may also touch what is new since the first world. -/
theorem Tch.new {S T : List Nat} {a b c : World} (h : Tch S a b) (k : Tch T b c) (hT : ∀ i ∈ T, i ∈ S ∨ a.heap.size ≤ i) : Tch S a c :=
  ⟨k.os.trans h.os, k.tape.trans h.tape, k.output.trans h.output, Nat.le_trans h.size k.size,
   fun i hi hn => (k.block i (Nat.lt_of_lt_of_le hi h.size) (fun hm => by rcases hT i hm with h1 | h1; exact hn h1; omega)).trans (h.block i hi hn)⟩
theorem Tch.drewN {S : List Nat} (w : World) (n : Nat) : Tch S w (w.drewN n) := ⟨rfl, rfl, rfl, Nat.le_refl _, fun _ _ _ => rfl⟩
theorem Tch.alloc {S : List Nat} (w : World) (o : Obj) : Tch S w (w.alloc o) := ⟨rfl, rfl, rfl, by simp, fun k hk _ => Below.heap_alloc w o k hk⟩
theorem Tch.setCell {S : List Nat} (w : World) (p : Addr) (v : Value) (h : p.block ∈ S) : Tch S w (w.setCell p v) :=
  ⟨rfl, rfl, rfl, by simp [World.setCell], fun k _ hn => heap_setCell_other w p k v (fun e => hn (e ▸ h))⟩
theorem Tch.setRow {S : List Nat} (w : World) (g : Nat) (cs : Array Value) (h : g ∈ S) : Tch S w (w.setRow g cs) :=
  ⟨rfl, rfl, rfl, by simp, fun k _ hn => setRow_other w g k cs (fun e => hn (e ▸ h))⟩
theorem Tch.grown {w w' : World} {row : Option Nat} (h : w.grownBy w' row) : Tch row.toList w w' :=
  ⟨h.os, h.tape, h.output, h.size, fun k hk hn => h.block k hk (fun e => hn (by simp [← e]))⟩
theorem Tch.below {w w' : World} (h : Tch [] w w') : Below w.heap.size w w' := ⟨h.os, h.tape, h.output, h.size, fun k hk => h.block k hk (by simp)⟩
theorem Tch.same {S : List Nat} {w w' : World} (h : Tch S w w') {b : Nat} {o : Obj} (hb : w.heap[b]? = some o) (hn : b ∉ S) : w'.heap[b]? = some o := by
  rw [h.block b (lt_of_block hb) hn]; exact hb

/-- Block b is a row of cells of its own, that may be written. -/
def Row (w : World) (b : Nat) (t : TypeId) (cs : List Value) : Prop := w.heap[b]? = some (.cells cs.toArray t (0, 0))
theorem Row.lt {w : World} {b : Nat} {t : TypeId} {cs : List Value} (h : Row w b t cs) : b < w.heap.size := lt_of_block h
theorem Row.cell {w : World} {b : Nat} {t : TypeId} {cs : List Value} (h : Row w b t cs) (i : Nat) : w.cell? ⟨b, i, none⟩ = cs[i]? := by
  rw [cell_of_row w b i _ t (0, 0) h]; simp
theorem Row.free {w : World} {b : Nat} {t : TypeId} {cs : List Value} (h : Row w b t cs) (i : Nat) : w.frozen? ⟨b, i, none⟩ = false := frozen_of_row w b i _ t h
theorem Row.set {w : World} {b : Nat} {t : TypeId} {cs : List Value} (h : Row w b t cs) (i : Nat) (v : Value) : Row (w.setCell ⟨b, i, none⟩ v) b t (cs.set i v) := by
  unfold Row at *
  rw [heap_setCell_same w b i _ t v h]; simp
theorem Row.setOther {w : World} {b : Nat} {t : TypeId} {cs : List Value} (h : Row w b t cs) (p : Addr) (v : Value) (hp : b ≠ p.block) : Row (w.setCell p v) b t cs := by
  unfold Row at *
  rw [heap_setCell_other w p b v hp]; exact h
theorem Row.tch {S : List Nat} {w w' : World} {b : Nat} {t : TypeId} {cs : List Value} (h : Row w b t cs) (k : Tch S w w') (hn : b ∉ S) : Row w' b t cs := k.same h hn
theorem Row.new (w : World) (t : TypeId) (cs : List Value) : Row (w.alloc (.cells cs.toArray t)) w.heap.size t cs := heap_alloc_new w _
theorem Row.alloc {w : World} {b : Nat} {t : TypeId} {cs : List Value} (h : Row w b t cs) (o : Obj) : Row (w.alloc o) b t cs := h.tch (S := []) (Tch.alloc w o) (by simp)
theorem Row.drewN {w : World} {b : Nat} {t : TypeId} {cs : List Value} (h : Row w b t cs) (n : Nat) : Row (w.drewN n) b t cs := h

/-- The slice v reads as the bytes l. -/
def Rd (w : World) (v : Value) (l : By) : Prop :=
  ∃ p cap, v = .slice p l.length cap ∧ l.length ≤ cap ∧ cap ≤ maxLen ∧ (l = [] ∨ ∃ b o, p = some ⟨b, o, none⟩ ∧ ∀ i x, l[i]? = some x → w.cell? ⟨b, o + i, none⟩ = some (vb x))

/-- The blocks that S may not hold if v is to read as it did. -/
def Off (S : List Nat) (v : Value) : Prop := ∀ b, v.ownBlock = some b → b ∉ S

theorem Rd.nil (w : World) : Rd w (.slice none 0 0) [] := ⟨none, 0, rfl, Nat.le_refl _, by unfold maxLen; omega, .inl rfl⟩
theorem cell_lt {w : World} {a : Addr} {v : Value} (h : w.cell? a = some v) : a.block < w.heap.size := block_lt_of_cell h
theorem Tch.cell {S : List Nat} {w w' : World} (k : Tch S w w') {a : Addr} {v : Value} (h : w.cell? a = some v) (hn : a.block ∉ S) : w'.cell? a = some v := by
  rw [World.cell?_of_block (k.block a.block (cell_lt h) hn)]; exact h
theorem Rd.tch {S : List Nat} {w w' : World} {v : Value} {l : By} (h : Rd w v l) (k : Tch S w w') (hn : Off S v) : Rd w' v l := by
  obtain ⟨p, cap, hv, hl, hm, h⟩ := h
  refine ⟨p, cap, hv, hl, hm, ?_⟩
  rcases h with h | ⟨b, o, rfl, h⟩
  · exact .inl h
  · exact .inr ⟨b, o, rfl, fun i x hx => k.cell (h i x hx) (hn b (by rw [hv]; rfl))⟩
/-- What has just been made is none of the old blocks. -/
theorem Rd.tchNew {S : List Nat} {w w' : World} {v : Value} {l : By} (h : Rd w v l) (k : Tch S w w') (hn : ∀ b ∈ S, w.heap.size ≤ b) : Rd w' v l := by
  obtain ⟨p, cap, hv, hl, hm, h⟩ := h
  refine ⟨p, cap, hv, hl, hm, ?_⟩
  rcases h with h | ⟨b, o, rfl, h⟩
  · exact .inl h
  · refine .inr ⟨b, o, rfl, fun i x hx => k.cell (h i x hx) (fun hm => ?_)⟩
    have h1 : b < w.heap.size := cell_lt (h i x hx)
    have h2 : w.heap.size ≤ b := hn _ hm
    omega
theorem Rd.len {w : World} {v : Value} {l : By} (h : Rd w v l) : l.length ≤ maxLen := by
  obtain ⟨_, _, _, h1, h2, _⟩ := h; omega

/-- The table of the round constants, as it lies in memory. -/
def KIs (w : World) (kt : List UInt32) : Prop := kt.length = 64 ∧ Row w 0 117 (kt.map vw)
theorem KIs.tch {S : List Nat} {w w' : World} {kt : List UInt32} (h : KIs w kt) (k : Tch S w w') (hn : 0 ∉ S) : KIs w' kt := ⟨h.1, h.2.tch k hn⟩
theorem Row.ne {w : World} {b b' : Nat} {t t' : TypeId} {cs cs' : List Value} (h : Row w b t cs) (h' : Row w b' t' cs') (hn : t ≠ t') : b ≠ b' := by
  intro e; subst e
  unfold Row at h h'
  rw [h] at h'
  simp at h'
  exact hn h'.2

/-- A digest's cells. -/
def digCells (s : S8) (x : By) (nx len : Nat) : List Value :=
  [vw s.a, vw s.b, vw s.c, vw s.d, vw s.e, vw s.f, vw s.g, vw s.h] ++ x.map vb ++ [.int .i64 nx, .int .u64 len, .bool false]
theorem digCells_x (s : S8) (x : By) (nx len i : Nat) (hi : i < x.length) : (digCells s x nx len)[8 + i]? = some (vb (x.getD i 0)) := by
  unfold digCells
  rw [List.append_assoc, List.getElem?_append_right (by simp), List.getElem?_append_left (by simp; omega)]
  simp [List.getD_eq_getElem?_getD, List.getElem?_eq_getElem hi]

end Go.Proofs.Ytgomodhhomekpaa

/-
  A frame told slot by slot: 'G a j' is what slot j of a holds; a frame of n slots is the list of them.
-/
namespace Go.Proofs.Ytgomodhhomekpaa
open Go.RowKit

def G (a : Act) (j : Nat) : Value := a.tmps.getD j undef
/-- n slots, nothing deferred. -/
def Frm (n : Nat) (a : Act) : Prop := a.tmps.size = n ∧ a.defers = []
def fromJ (a : Act) : Nat → Nat → List Value
  | 0, _ => []
  | f + 1, j => G a j :: fromJ a f (j + 1)
theorem fromJ_length (a : Act) (f : Nat) : ∀ j, (fromJ a f j).length = f := by
  induction f with
  | zero => intro j; rfl
  | succ f ih => intro j; simp [fromJ, ih]
theorem fromJ_get (a : Act) (f : Nat) : ∀ j i, i < f → (fromJ a f j)[i]? = some (G a (j + i)) := by
  induction f with
  | zero => intro j i h; omega
  | succ f ih =>
    intro j i h
    cases i with
    | zero => simp [fromJ]
    | succ i => simp only [fromJ, List.getElem?_cons_succ]; rw [ih (j + 1) i (by omega)]; congr 2; omega
theorem lit_of {n : Nat} (a : Act) (h : Frm n a) : a = ⟨(fromJ a n 0).toArray, []⟩ := by
  obtain ⟨tmps, ds⟩ := a
  obtain ⟨h1, h2⟩ := h
  simp only at h1 h2
  subst h2
  congr 1
  apply Array.ext
  · simp [fromJ_length, h1]
  · intro i hi _
    have e := fromJ_get ⟨tmps, []⟩ n 0 i (by omega)
    rw [List.getElem?_eq_getElem (by rw [fromJ_length]; omega)] at e
    have e2 := Option.some.inj e
    simp only [List.getElem_toArray]
    rw [e2]
    simp [G, Array.getD, hi]

set_option maxRecDepth 100000 in
theorem lit283 (a : Act) (h : Frm 283 a) : a = ⟨#[G a 0, G a 1, G a 2, G a 3, G a 4, G a 5, G a 6, G a 7, G a 8, G a 9, G a 10, G a 11, G a 12, G a 13, G a 14, G a 15, G a 16, G a 17, G a 18, G a 19, G a 20, G a 21, G a 22, G a 23, G a 24, G a 25, G a 26, G a 27, G a 28, G a 29, G a 30, G a 31, G a 32, G a 33, G a 34, G a 35, G a 36, G a 37, G a 38, G a 39, G a 40, G a 41, G a 42, G a 43, G a 44, G a 45, G a 46, G a 47, G a 48, G a 49, G a 50, G a 51, G a 52, G a 53, G a 54, G a 55, G a 56, G a 57, G a 58, G a 59, G a 60, G a 61, G a 62, G a 63, G a 64, G a 65, G a 66, G a 67, G a 68, G a 69, G a 70, G a 71, G a 72, G a 73, G a 74, G a 75, G a 76, G a 77, G a 78, G a 79, G a 80, G a 81, G a 82, G a 83, G a 84, G a 85, G a 86, G a 87, G a 88, G a 89, G a 90, G a 91, G a 92, G a 93, G a 94, G a 95, G a 96, G a 97, G a 98, G a 99, G a 100, G a 101, G a 102, G a 103, G a 104, G a 105, G a 106, G a 107, G a 108, G a 109, G a 110, G a 111, G a 112, G a 113, G a 114, G a 115, G a 116, G a 117, G a 118, G a 119, G a 120, G a 121, G a 122, G a 123, G a 124, G a 125, G a 126, G a 127, G a 128, G a 129, G a 130, G a 131, G a 132, G a 133, G a 134, G a 135, G a 136, G a 137, G a 138, G a 139, G a 140, G a 141, G a 142, G a 143, G a 144, G a 145, G a 146, G a 147, G a 148, G a 149, G a 150, G a 151, G a 152, G a 153, G a 154, G a 155, G a 156, G a 157, G a 158, G a 159, G a 160, G a 161, G a 162, G a 163, G a 164, G a 165, G a 166, G a 167, G a 168, G a 169, G a 170, G a 171, G a 172, G a 173, G a 174, G a 175, G a 176, G a 177, G a 178, G a 179, G a 180, G a 181, G a 182, G a 183, G a 184, G a 185, G a 186, G a 187, G a 188, G a 189, G a 190, G a 191, G a 192, G a 193, G a 194, G a 195, G a 196, G a 197, G a 198, G a 199, G a 200, G a 201, G a 202, G a 203, G a 204, G a 205, G a 206, G a 207, G a 208, G a 209, G a 210, G a 211, G a 212, G a 213, G a 214, G a 215, G a 216, G a 217, G a 218, G a 219, G a 220, G a 221, G a 222, G a 223, G a 224, G a 225, G a 226, G a 227, G a 228, G a 229, G a 230, G a 231, G a 232, G a 233, G a 234, G a 235, G a 236, G a 237, G a 238, G a 239, G a 240, G a 241, G a 242, G a 243, G a 244, G a 245, G a 246, G a 247, G a 248, G a 249, G a 250, G a 251, G a 252, G a 253, G a 254, G a 255, G a 256, G a 257, G a 258, G a 259, G a 260, G a 261, G a 262, G a 263, G a 264, G a 265, G a 266, G a 267, G a 268, G a 269, G a 270, G a 271, G a 272, G a 273, G a 274, G a 275, G a 276, G a 277, G a 278, G a 279, G a 280, G a 281, G a 282], []⟩ := lit_of a h
set_option maxRecDepth 100000 in
theorem lit104 (a : Act) (h : Frm 104 a) : a = ⟨#[G a 0, G a 1, G a 2, G a 3, G a 4, G a 5, G a 6, G a 7, G a 8, G a 9, G a 10, G a 11, G a 12, G a 13, G a 14, G a 15, G a 16, G a 17, G a 18, G a 19, G a 20, G a 21, G a 22, G a 23, G a 24, G a 25, G a 26, G a 27, G a 28, G a 29, G a 30, G a 31, G a 32, G a 33, G a 34, G a 35, G a 36, G a 37, G a 38, G a 39, G a 40, G a 41, G a 42, G a 43, G a 44, G a 45, G a 46, G a 47, G a 48, G a 49, G a 50, G a 51, G a 52, G a 53, G a 54, G a 55, G a 56, G a 57, G a 58, G a 59, G a 60, G a 61, G a 62, G a 63, G a 64, G a 65, G a 66, G a 67, G a 68, G a 69, G a 70, G a 71, G a 72, G a 73, G a 74, G a 75, G a 76, G a 77, G a 78, G a 79, G a 80, G a 81, G a 82, G a 83, G a 84, G a 85, G a 86, G a 87, G a 88, G a 89, G a 90, G a 91, G a 92, G a 93, G a 94, G a 95, G a 96, G a 97, G a 98, G a 99, G a 100, G a 101, G a 102, G a 103], []⟩ := lit_of a h
set_option maxRecDepth 100000 in
theorem lit95 (a : Act) (h : Frm 95 a) : a = ⟨#[G a 0, G a 1, G a 2, G a 3, G a 4, G a 5, G a 6, G a 7, G a 8, G a 9, G a 10, G a 11, G a 12, G a 13, G a 14, G a 15, G a 16, G a 17, G a 18, G a 19, G a 20, G a 21, G a 22, G a 23, G a 24, G a 25, G a 26, G a 27, G a 28, G a 29, G a 30, G a 31, G a 32, G a 33, G a 34, G a 35, G a 36, G a 37, G a 38, G a 39, G a 40, G a 41, G a 42, G a 43, G a 44, G a 45, G a 46, G a 47, G a 48, G a 49, G a 50, G a 51, G a 52, G a 53, G a 54, G a 55, G a 56, G a 57, G a 58, G a 59, G a 60, G a 61, G a 62, G a 63, G a 64, G a 65, G a 66, G a 67, G a 68, G a 69, G a 70, G a 71, G a 72, G a 73, G a 74, G a 75, G a 76, G a 77, G a 78, G a 79, G a 80, G a 81, G a 82, G a 83, G a 84, G a 85, G a 86, G a 87, G a 88, G a 89, G a 90, G a 91, G a 92, G a 93, G a 94], []⟩ := lit_of a h
set_option maxRecDepth 100000 in
theorem lit81 (a : Act) (h : Frm 81 a) : a = ⟨#[G a 0, G a 1, G a 2, G a 3, G a 4, G a 5, G a 6, G a 7, G a 8, G a 9, G a 10, G a 11, G a 12, G a 13, G a 14, G a 15, G a 16, G a 17, G a 18, G a 19, G a 20, G a 21, G a 22, G a 23, G a 24, G a 25, G a 26, G a 27, G a 28, G a 29, G a 30, G a 31, G a 32, G a 33, G a 34, G a 35, G a 36, G a 37, G a 38, G a 39, G a 40, G a 41, G a 42, G a 43, G a 44, G a 45, G a 46, G a 47, G a 48, G a 49, G a 50, G a 51, G a 52, G a 53, G a 54, G a 55, G a 56, G a 57, G a 58, G a 59, G a 60, G a 61, G a 62, G a 63, G a 64, G a 65, G a 66, G a 67, G a 68, G a 69, G a 70, G a 71, G a 72, G a 73, G a 74, G a 75, G a 76, G a 77, G a 78, G a 79, G a 80], []⟩ := lit_of a h
set_option maxRecDepth 100000 in
theorem lit28 (a : Act) (h : Frm 28 a) : a = ⟨#[G a 0, G a 1, G a 2, G a 3, G a 4, G a 5, G a 6, G a 7, G a 8, G a 9, G a 10, G a 11, G a 12, G a 13, G a 14, G a 15, G a 16, G a 17, G a 18, G a 19, G a 20, G a 21, G a 22, G a 23, G a 24, G a 25, G a 26, G a 27], []⟩ := lit_of a h
set_option maxRecDepth 100000 in
theorem lit23 (a : Act) (h : Frm 23 a) : a = ⟨#[G a 0, G a 1, G a 2, G a 3, G a 4, G a 5, G a 6, G a 7, G a 8, G a 9, G a 10, G a 11, G a 12, G a 13, G a 14, G a 15, G a 16, G a 17, G a 18, G a 19, G a 20, G a 21, G a 22], []⟩ := lit_of a h

/-- The body of the first loop of a code. -/
def firstLoop : Code → Option Code
  | .loop c => some c
  | .seq a b => match firstLoop a with
    | some c => some c
    | none => firstLoop b
  | .block _ c => firstLoop c
  | .scope c => firstLoop c
  | .cond _ a b => match firstLoop a with
    | some c => some c
    | none => firstLoop b
  | _ => none
/-- A part of a code: 'false' to the left ('then', a body), 'true' to the right ('else'). -/
def part : Code → List Bool → Code
  | c, [] => c
  | .seq a b, d :: p => part (if d then b else a) p
  | .cond _ a b, d :: p => part (if d then b else a) p
  | .block _ c, _ :: p => part c p
  | .loop c, _ :: p => part c p
  | .scope c, _ :: p => part c p
  | c, _ => c
/-- The listed slots of a' hold what those of a hold. -/
def Same : List Nat → Act → Act → Prop
  | [], _, _ => True
  | j :: l, a, a' => G a' j = G a j ∧ Same l a a'
theorem Same.get {a a' : Act} : ∀ {l : List Nat}, Same l a a' → ∀ j, l.contains j = true → G a' j = G a j
  | [], _, j, hj => by simp at hj
  | i :: l, h, j, hj => by
    by_cases e : j = i
    · subst e; exact h.1
    · exact h.2.get j (by simpa [e] using hj)
def bodyOf (f : Func) : Code := f.body.getD .skip
def loopIn (c : Code) : Code := (firstLoop c).getD .skip
end Go.Proofs.Ytgomodhhomekpaa

/-
  A region that draws its order, whose operations only read but for a last few in one forced order: the reading ones are walked by the quiet step.
-/
namespace Go.Proofs.Ytgomodhhomekpaa
theorem still_of_quiet {P : Program} {o : Oper} {a : Act} {w : World} {K : Act → Prop} (h : o.quiet P a (fun w' => w' = w) K) : o.still P a w K := by
  obtain ⟨v, h1, h2⟩ := h
  have h3 := h1 w rfl
  unfold Oper.quietAt at h3
  unfold Oper.still
  generalize (execOp a.eval o).run P w = r at *
  cases r with
  | ok n w' =>
    cases n <;> simp only [Oper.quietUpon] at h3 <;> simp only [Oper.stillUpon]
    case value u => exact ⟨h3.1, by rw [h3.2]; exact h2⟩
    case skip => exact ⟨h3.1, by rw [← h3.2]; exact h2⟩
    case enter f args => exact ⟨h3.1, v, h3.2, h2⟩
  | halt x w' => simp only [Oper.quietUpon] at h3
theorem wpStill_of_quiet {P : Program} {ops : Array Oper} {w : World} {Q : Act → Prop} (l : List Oper) : ∀ a, wpQuiet P ops (fun w' => w' = w) Q l a → wpStill P ops w Q l a := by
  induction l with
  | nil => intro a h; exact h
  | cons o l ih =>
    intro a h
    unfold wpQuiet at h
    unfold wpStill
    split at h
    · rename_i hw; rw [if_pos hw]
      exact Oper.still_mono (fun a h => ih a h) (still_of_quiet h)
    · rename_i hw; rw [if_neg hw]
      exact ih _ h
theorem wp_region_quiet_tail {P : Program} {id : Nat} {Q : Exit → Act → World → Prop} {a : Act} {w : World} {l : List Oper} (n : Nat) (hm : P.follows .mixedOrders = true) (hB : Region.lexTailB .any l.toArray n = true)
    (h : wpQuiet P l.toArray (fun w' => w' = w.drew) (fun a' => wpList P l.toArray Q (l.drop n) a' w.drew) (l.take n) a) : (Code.region id l.toArray true).wp P Q a w :=
  wp_region_still_tail n hm hB (wpStill_of_quiet _ _ h)
end Go.Proofs.Ytgomodhhomekpaa

/-
  The hash that is handed in: Write.
-/
namespace Go.Proofs.Ytgomodhhomekpaa
open Go.RowKit Pu Ar
/-- Block b is a hash of the thin package: its sizes, how many bytes it has taken in, its state in block sb. -/
structure OwnAt (w : World) (b sb size block n : Nat) (st : By) : Prop where
  ne : b ≠ sb
  one : 1 ≤ size
  most : size ≤ 16
  len : st.length = size
  row : Row w b 106 [.int .i64 size, .int .i64 block, .int .i64 n, .slice (some ⟨sb, 0, none⟩) size size]
  state : Row w sb 5 (st.map vb)
theorem OwnAt.tch {S : List Nat} {w w' : World} {b sb size block n : Nat} {st : By} (h : OwnAt w b sb size block n st) (k : Tch S w w') (hb : b ∉ S) (hs : sb ∉ S) : OwnAt w' b sb size block n st :=
  ⟨h.ne, h.one, h.most, h.len, h.row.tch k hb, h.state.tch k hs⟩
def PW (a : Act) (w : World) (b sb size block n i : Nat) (st : By) (x : UInt8) (a' : Act) (w' : World) : Prop :=
  Frm 81 a' ∧ Same [0, 1, 9, 10] a a' ∧ G a' 11 = .int .i64 ((i : Int) + 1) ∧ OwnAt w' b sb size block (n + 1) (ownStep size st n x) ∧ Tch [b, sb] w w'
set_option maxHeartbeats 1000000 in
set_option maxRecDepth 100000 in
theorem owRound (a : Act) (w : World) (h : Frm 81 a) (Q : Exit → Act → World → Prop) (b sb size block n i : Nat) (st : By) (pb po len cap : Nat) (x : UInt8)
    (hO : OwnAt w b sb size block n st) (hn : (n : Int) + 1 ≤ 9223372036854775807) (hi : i < len) (hl : (len : Int) ≤ 9223372036854775807)
    (g0 : G a 0 = .pointer (some ⟨b, 0, none⟩)) (g9 : G a 9 = .slice (some ⟨pb, po, none⟩) len cap) (g10 : G a 10 = .int .i64 len) (g11 : G a 11 = .int .i64 i)
    (cx : w.cell? ⟨pb, po + i, none⟩ = some (.int .u8 (ib x)))
    (hQ : ∀ a' w', PW a w b sb size block n i st x a' w' → Q .normal a' w') :
    (part (bodyOf Try.f117) [true, false, true, false, false]).wp Try.prog Q a w := by
  obtain ⟨hbs, hs, hs16, hst, hb, hsb⟩ := hO
  have b0 : w.cell? ⟨b, 0, none⟩ = some (.int .i64 size) := by rw [hb.cell]; rfl
  have b2 : w.cell? ⟨b, 2, none⟩ = some (.int .i64 n) := by rw [hb.cell]; rfl
  have b3 : w.cell? ⟨b, 3, none⟩ = some (.slice (some ⟨sb, 0, none⟩) size size) := by rw [hb.cell]; rfl
  have hk : n % size < size := Nat.mod_lt _ hs
  have hk1 : (n + 1) % size < size := Nat.mod_lt _ hs
  have hki : (n : Int) % (size : Int) < size := by exact_mod_cast hk
  have hki0 : 0 ≤ (n : Int) % (size : Int) := by omega
  have hk1i : ((n : Int) + 1) % (size : Int) < size := by exact_mod_cast hk1
  have hk1i0 : 0 ≤ ((n : Int) + 1) % (size : Int) := Int.emod_nonneg _ (by omega)
  have s1 : w.cell? ⟨sb, n % size, none⟩ = some (.int .u8 (ib (st.getD (n % size) 0))) := by
    rw [hsb.cell]; simp [List.getD_eq_getElem?_getD, List.getElem?_eq_getElem (show n % size < st.length by omega), vb]
  have f1 := hsb.free (n % size)
  have e1 := Ar.wrap_mul31
  have e2 := Ar.wrap_add8
  have e3 := Ar.wrap_of8 n
  have e4 := Ar.bits_xor8
  conv => arg 2; whnf
  rw [lit81 a h]
  simp only [g0, g9, g10, g11]
  have G0 := Lib.hid g0
  have G9 := Lib.hid g9
  have G10 := Lib.hid g10
  have HB := Lib.hid hb
  have HS := Lib.hid hsb
  have HST := Lib.hid hst
  clear h g0 g9 g10 g11 hb hsb hst
  go_wp2
  go_quiet (fail)
  go_wp2
  refine wp_region_quiet_tail 22 (by kernel_rfl) (by kernel_rfl) ?_
  simp only [List.take_succ_cons, List.take_zero, List.drop_succ_cons, List.drop_zero]
  repeat (go_big_quiet_step (fail))
  refine wpQuiet_nil ?_
  go_wp2
  generalize hv : (31 * st[n % size]?.getD 0 + x + UInt8.ofNat n) = v
  generalize hW1 : World.setCell _ _ _ = W1
  have T1 : Tch [b, sb] w W1 := by rw [← hW1]; exact (Tch.drewN w _).trans (Tch.setCell _ _ _ (by simp))
  have R1 : Row W1 sb 5 ((st.set (n % size) v).map vb) := by
    rw [← hW1, List.map_set]; exact (HS.out.drewN _).set _ _
  have RB : Row W1 b 106 [.int .i64 size, .int .i64 block, .int .i64 n, .slice (some ⟨sb, 0, none⟩) size size] := by
    rw [← hW1]; exact (HB.out.drewN _).setOther _ _ hbs
  have HW1 := Lib.hid hW1
  have HV := Lib.hid hv
  clear hW1 hv b0 b2 b3 s1 f1 cx
  have b0 : W1.cell? ⟨b, 0, none⟩ = some (.int .i64 size) := by rw [RB.cell]; rfl
  have b2 : W1.cell? ⟨b, 2, none⟩ = some (.int .i64 n) := by rw [RB.cell]; rfl
  have b3 : W1.cell? ⟨b, 3, none⟩ = some (.slice (some ⟨sb, 0, none⟩) size size) := by rw [RB.cell]; rfl
  have l1 : (st.set (n % size) v).length = size := by rw [List.length_set, HST.out]
  have s1 : W1.cell? ⟨sb, n % size, none⟩ = some (.int .u8 (ib v)) := by
    rw [R1.cell]; simp [HST.out, hk, vb]
  obtain ⟨y, hy⟩ : ∃ y, y = (st.set (n % size) v).getD ((n + 1) % size) 0 := ⟨_, rfl⟩
  have s2 : W1.cell? ⟨sb, (n + 1) % size, none⟩ = some (.int .u8 (ib y)) := by
    rw [R1.cell, hy, List.getElem?_map, List.getD_eq_getElem?_getD, List.getElem?_eq_getElem (by omega)]; rfl
  have f2 := R1.free ((n + 1) % size)
  have HR1 := Lib.hid R1
  have HRB := Lib.hid RB
  have HY := Lib.hid hy
  have HT1 := Lib.hid T1
  clear R1 RB hy T1 l1
  refine wp_region_quiet_tail 25 (by kernel_rfl) (by kernel_rfl) ?_
  simp only [List.take_succ_cons, List.take_zero, List.drop_succ_cons, List.drop_zero]
  repeat (go_big_quiet_step (fail))
  refine wpQuiet_nil ?_
  iterate 3 go_step
  generalize hW2 : (World.setCell _ _ _).drew = W2
  have T2 : Tch [b, sb] w W2 := by rw [← hW2]; exact HT1.out.trans ((Tch.setCell _ _ _ (by simp)).trans (Tch.drewN _ 1))
  have hst2 : ((st.set (n % size) v).map vb).set ((n + 1) % size) (.int .u8 (ib (y ^^^ v))) = (ownStep size st n x).map vb := by
    have e : v = 31 * st.getD (n % size) 0 + x + UInt8.ofNat n := by rw [← HV.out, List.getD_eq_getElem?_getD]
    have e2 : (st.set (n % size) v).getD (n % size) 0 = v := by simp [List.getD_eq_getElem?_getD, HST.out, hk]
    simp only [ownStep]
    rw [← e, e2, ← HY.out, List.map_set (l := st.set _ _)]; rfl
  have R2 : Row W2 sb 5 ((ownStep size st n x).map vb) := by
    rw [← hst2, ← hW2]; exact (HR1.out.set _ _).drewN 1
  have RB2 : Row W2 b 106 [.int .i64 size, .int .i64 block, .int .i64 n, .slice (some ⟨sb, 0, none⟩) size size] := by
    rw [← hW2]; exact (HRB.out.setOther _ _ hbs).drewN 1
  have k2 : W2.cell? ⟨b, 2, none⟩ = some (.int .i64 n) := by rw [RB2.cell]; rfl
  have kf : W2.frozen? ⟨b, 2, none⟩ = false := RB2.free 2
  have HT2 := Lib.hid T2
  have HR2 := Lib.hid R2
  have HRB2 := Lib.hid RB2
  clear hW2 T2 hst2 R2 RB2 b0 b2 b3 s1 s2 f2 hki hki0 hk1i hk1i0 hk hk1 e3
  go_wp2
  have E0 := G0.out
  have E9 := G9.out
  have E10 := G10.out
  exact ⟨⟨rfl, rfl⟩, ⟨E0.symm, rfl, E9.symm, E10.symm, trivial⟩, rfl, ⟨hbs, hs, hs16, by rw [ownStep_length, HST.out], HRB2.out.set 2 _, (HR2.out.setOther _ _ (Ne.symm hbs))⟩, HT2.out.trans (Tch.setCell _ _ _ (by simp))⟩
def PWX (a : Act) (w : World) (a' : Act) (w' : World) : Prop := Frm 81 a' ∧ Same [0, 1, 9, 10] a a' ∧ w' = w
set_option maxRecDepth 100000 in
theorem owLeave (a : Act) (w : World) (h : Frm 81 a) (Q : Exit → Act → World → Prop) (len : Nat) (g10 : G a 10 = .int .i64 len) (g11 : G a 11 = .int .i64 len)
    (hQ : ∀ a' w', PWX a w a' w' → Q (.exit 0) a' w') :
    (part (bodyOf Try.f117) [true, false, true, false, false]).wp Try.prog Q a w := by
  conv => arg 2; whnf
  rw [lit81 a h]
  simp only [g10, g11]
  have G10 := Lib.hid g10
  clear h g10 g11
  go_wp2
  have E10 := G10.out
  exact ⟨⟨rfl, rfl⟩, ⟨rfl, rfl, rfl, E10.symm, trivial⟩, rfl⟩
theorem owLoop_eq : part (bodyOf Try.f117) [true, false, true, false] = .loop (part (bodyOf Try.f117) [true, false, true, false, false]) := by kernel_rfl
structure OWI (a0 : Act) (w0 : World) (b sb size block n : Nat) (st p : By) (i : Nat) (a : Act) (w : World) : Prop where
  frm : Frm 81 a
  same : Same [0, 1, 9, 10] a0 a
  le : i ≤ p.length
  g11 : G a 11 = .int .i64 (i : Int)
  own : OwnAt w b sb size block (n + i) (ownFrom size st n (p.take i))
  tch : Tch [b, sb] w0 w
def OWE (a : Act) (w : World) (b sb size block n : Nat) (st p : By) (a' : Act) (w' : World) : Prop :=
  Frm 81 a' ∧ Same [0, 1, 9, 10] a a' ∧ OwnAt w' b sb size block (n + p.length) (ownFrom size st n p) ∧ Tch [b, sb] w w'
theorem owLoop (a : Act) (w : World) (h : Frm 81 a) (Q : Exit → Act → World → Prop) (b sb size block n : Nat) (st p : By) (v : Value) (hO : OwnAt w b sb size block n st) (hp : Rd w v p) (hoff : Off [b, sb] v)
    (hn : n + p.length ≤ maxLen) (g0 : G a 0 = .pointer (some ⟨b, 0, none⟩)) (g9 : G a 9 = v) (g10 : G a 10 = .int .i64 p.length) (g11 : G a 11 = .int .i64 0)
    (hQ : ∀ a' w', OWE a w b sb size block n st p a' w' → Q (.exit 0) a' w') :
    (part (bodyOf Try.f117) [true, false, true, false]).wp Try.prog Q a w := by
  rw [owLoop_eq]
  unfold maxLen at hn
  obtain ⟨q, cap, hv, hcap, hmax, hrd⟩ := hp
  refine wp_loop (fun a' w' => ∃ i, OWI a w b sb size block n st p i a' w') (fun a' _ => p.length - (intOf (G a' 11)).toNat) ⟨0, h, by simp [Same], by omega, g11, hO, Tch.refl _ _⟩ ?_
  rintro a1 w1 ⟨i, I⟩
  by_cases hi : i < p.length
  · obtain ⟨pb, po, rfl, hcell⟩ : ∃ pb po, q = some ⟨pb, po, none⟩ ∧ ∀ i x, p[i]? = some x → w.cell? ⟨pb, po + i, none⟩ = some (vb x) := by
      rcases hrd with h | h
      · rw [h] at hi; simp at hi
      · exact h
    have hx := I.tch.cell (hcell i _ (List.getElem?_eq_getElem hi)) (hoff pb (by rw [hv]; rfl))
    refine owRound a1 w1 I.frm _ b sb size block (n + i) i _ pb po p.length cap p[i] I.own (by omega) hi (by omega) ((I.same.get 0 rfl).trans g0) ((I.same.get 9 rfl).trans (g9.trans hv)) ((I.same.get 10 rfl).trans g10) I.g11 hx ?_
    rintro a' w' ⟨p1, p2, p3, p4, p5⟩
    simp only [Exit.then]
    refine ⟨⟨i + 1, p1, ?_, by omega, p3, ?_, I.tch.trans p5⟩, ?_⟩
    · have s := I.same
      simp only [Same] at s p2 ⊢
      simp only [p2, s, and_self]
    · have e : ownFrom size st n (p.take (i + 1)) = ownStep size (ownFrom size st n (p.take i)) (n + i) p[i] := by
        rw [List.take_succ_eq_append_getElem hi, ownFrom_append, List.length_take, Nat.min_eq_left (by omega)]; rfl
      rw [e]; exact p4
    · rw [p3, I.g11]; simp [intOf]; omega
  · have hi' : i = p.length := by have := I.le; omega
    subst hi'
    refine owLeave a1 w1 I.frm _ p.length ((I.same.get 10 rfl).trans g10) I.g11 ?_
    rintro a' w' ⟨p1, p2, rfl⟩
    simp only [Exit.then]
    have s := I.same
    have o := I.own
    rw [List.take_length] at o
    refine hQ _ _ ⟨p1, ?_, o, I.tch⟩
    simp only [Same] at s p2 ⊢
    simp only [p2, s, and_self]
set_option maxRecDepth 100000 in
/-- Write of the hash that is handed in. -/
theorem ownWrite (b sb size block n : Nat) (st p : By) (v : Value) (w : World) (hO : OwnAt w b sb size block n st) (hp : Rd w v p) (hoff : Off [b, sb] v) (hn : n + p.length ≤ maxLen) :
    Calls Try.prog 117 #[.pointer (some ⟨b, 0, none⟩), v] w fun e w' =>
      e = .returned (.tuple #[.int .i64 p.length, .nilIface]) ∧ OwnAt w' b sb size block (n + p.length) (ownFrom size st n p) ∧ Tch [b, sb] w w' := by
  obtain ⟨q, cap, hv, hcap, hmax, hrd⟩ := hp
  have hp : Rd w v p := ⟨q, cap, hv, hcap, hmax, hrd⟩
  have HP := Lib.hid hp
  have HO := Lib.hid hO
  have HF := Lib.hid hoff
  have HV := Lib.hid hv
  have HN := Lib.hid hn
  clear hp hO hoff hrd hn
  subst hv
  go_enter Try.func117, Try.ntmps117
  go_wp2
  refine owLoop _ _ ⟨rfl, rfl⟩ _ b sb size block n st p _ HO.out HP.out HF.out HN.out rfl rfl rfl rfl ?_
  rintro a' w' ⟨f, s, o, t⟩
  have g1 : G a' 1 = .slice q p.length cap := s.2.1
  rw [lit81 a' f]
  simp only [g1]
  have H := Lib.hid (And.intro o t)
  clear s o t f g1
  go_wp2
  go_ret2
  exact ⟨rfl, H.out⟩
end Go.Proofs.Ytgomodhhomekpaa

/-
  The hash that is handed in: Reset, BlockSize, Size.
-/
namespace Go.Proofs.Ytgomodhhomekpaa
open Go.RowKit Pu Ar
def ORP (a : Act) (w : World) (b sb size block i : Nat) (st : By) (a' : Act) (w' : World) : Prop :=
  Frm 23 a' ∧ Same [0, 9, 10] a a' ∧ G a' 11 = .int .i64 ((i : Int) + 1) ∧ OwnAt w' b sb size block 0 (st.set i (UInt8.ofNat i)) ∧ Tch [b, sb] w w'
set_option maxRecDepth 100000 in
theorem orRound (a : Act) (w : World) (h : Frm 23 a) (Q : Exit → Act → World → Prop) (b sb size block i : Nat) (st : By)
    (hO : OwnAt w b sb size block 0 st) (hi : i < size)
    (g0 : G a 0 = .pointer (some ⟨b, 0, none⟩)) (g10 : G a 10 = .int .i64 size) (g11 : G a 11 = .int .i64 i)
    (hQ : ∀ a' w', ORP a w b sb size block i st a' w' → Q .normal a' w') :
    (part (bodyOf Try.f67) [true, true, false, false]).wp Try.prog Q a w := by
  obtain ⟨hbs, hs, hs16, hst, hb, hsb⟩ := hO
  have b3 : w.cell? ⟨b, 3, none⟩ = some (.slice (some ⟨sb, 0, none⟩) size size) := by rw [hb.cell]; rfl
  have hii : (i : Int) < size := by exact_mod_cast hi
  have hsi : (size : Int) ≤ 16 := by exact_mod_cast hs16
  have s1 : w.cell? ⟨sb, i, none⟩ = some (.int .u8 (ib (st.getD i 0))) := by
    rw [hsb.cell]; simp [List.getD_eq_getElem?_getD, List.getElem?_eq_getElem (show i < st.length by omega), vb]
  have f1 := hsb.free i
  have e3 := Ar.wrap_of8 i
  conv => arg 2; whnf
  rw [lit23 a h]
  simp only [g0, g10, g11]
  have G0 := Lib.hid g0
  have G10 := Lib.hid g10
  have HB := Lib.hid hb
  have HS := Lib.hid hsb
  have HST := Lib.hid hst
  clear h g0 g10 g11 hb hsb hst
  go_wp2
  have E0 := G0.out
  have E10 := G10.out
  refine ⟨⟨rfl, rfl⟩, ⟨E0.symm, rfl, E10.symm, trivial⟩, rfl, ⟨hbs, hs, hs16, by rw [List.length_set, HST.out], HB.out.setOther _ _ hbs, ?_⟩, Tch.setCell _ _ _ (by simp)⟩
  rw [List.map_set]; exact HS.out.set _ _
def ORPX (a : Act) (w : World) (a' : Act) (w' : World) : Prop := Frm 23 a' ∧ Same [0] a a' ∧ w' = w
set_option maxRecDepth 100000 in
theorem orLeave (a : Act) (w : World) (h : Frm 23 a) (Q : Exit → Act → World → Prop) (len : Nat) (g10 : G a 10 = .int .i64 len) (g11 : G a 11 = .int .i64 len)
    (hQ : ∀ a' w', ORPX a w a' w' → Q (.exit 0) a' w') :
    (part (bodyOf Try.f67) [true, true, false, false]).wp Try.prog Q a w := by
  conv => arg 2; whnf
  rw [lit23 a h]
  simp only [g10, g11]
  clear h g10 g11
  go_wp2
  exact ⟨⟨rfl, rfl⟩, ⟨rfl, trivial⟩, rfl⟩
theorem orLoop_eq : part (bodyOf Try.f67) [true, true, false] = .loop (part (bodyOf Try.f67) [true, true, false, false]) := by kernel_rfl
structure ORI (a0 : Act) (w0 : World) (b sb size block : Nat) (i : Nat) (a : Act) (w : World) : Prop where
  frm : Frm 23 a
  same : Same [0, 9, 10] a0 a
  le : i ≤ size
  g11 : G a 11 = .int .i64 (i : Int)
  own : ∃ st, OwnAt w b sb size block 0 st ∧ st.take i = (ownInit size).take i
  tch : Tch [b, sb] w0 w
theorem ownInit_get (size i : Nat) (h : i < size) : (ownInit size)[i]? = some (UInt8.ofNat i) := by
  unfold ownInit; simp [h]
theorem take_set_init (st : By) (size i : Nat) (hl : st.length = size) (hi : i < size) (h : st.take i = (ownInit size).take i) :
    (st.set i (UInt8.ofNat i)).take (i + 1) = (ownInit size).take (i + 1) := by
  apply List.ext_getElem?
  intro j
  have e := congrArg (fun L : By => L[j]?) h
  simp only [List.getElem?_take] at e ⊢
  by_cases hj : j < i
  · simp only [hj, if_true] at e
    rw [if_pos (by omega), if_pos (by omega), List.getElem?_set_ne (by omega)]; exact e
  · by_cases hj2 : j = i
    · subst hj2
      rw [if_pos (by omega), if_pos (by omega), List.getElem?_set_self (by omega), ownInit_get _ _ hi]
    · rw [if_neg (by omega), if_neg (by omega)]
def ORE (w : World) (b sb size block : Nat) (a' : Act) (w' : World) : Prop := Frm 23 a' ∧ OwnAt w' b sb size block 0 (ownInit size) ∧ Tch [b, sb] w w'
theorem orLoop (a : Act) (w : World) (h : Frm 23 a) (Q : Exit → Act → World → Prop) (b sb size block : Nat) (st : By) (hO : OwnAt w b sb size block 0 st)
    (g0 : G a 0 = .pointer (some ⟨b, 0, none⟩)) (g10 : G a 10 = .int .i64 size) (g11 : G a 11 = .int .i64 0)
    (hQ : ∀ a' w', ORE w b sb size block a' w' → Q (.exit 0) a' w') :
    (part (bodyOf Try.f67) [true, true, false]).wp Try.prog Q a w := by
  rw [orLoop_eq]
  refine wp_loop (fun a' w' => ∃ i, ORI a w b sb size block i a' w') (fun a' _ => size - (intOf (G a' 11)).toNat) ⟨0, h, by simp [Same], by omega, g11, ⟨st, hO, by simp⟩, Tch.refl _ _⟩ ?_
  rintro a1 w1 ⟨i, I⟩
  obtain ⟨st1, o1, o2⟩ := I.own
  by_cases hi : i < size
  · refine orRound a1 w1 I.frm _ b sb size block i st1 o1 hi ((I.same.get 0 rfl).trans g0) ((I.same.get 10 rfl).trans g10) I.g11 ?_
    rintro a' w' ⟨p1, p2, p3, p4, p5⟩
    simp only [Exit.then]
    refine ⟨⟨i + 1, p1, ?_, by omega, p3, ⟨_, p4, take_set_init _ _ _ o1.len hi o2⟩, I.tch.trans p5⟩, ?_⟩
    · have s := I.same
      simp only [Same] at s p2 ⊢
      simp only [p2, s, and_self]
    · rw [p3, I.g11]; simp [intOf]; omega
  · have hi' : i = size := by have := I.le; omega
    subst hi'
    refine orLeave a1 w1 I.frm _ i ((I.same.get 10 rfl).trans g10) I.g11 ?_
    rintro a' w' ⟨p1, p2, rfl⟩
    simp only [Exit.then]
    have e : st1 = ownInit i := by
      have e1 := List.take_of_length_le (Nat.le_of_eq o1.len)
      have e2 : (ownInit i).take i = ownInit i := List.take_of_length_le (by simp [ownInit])
      rw [e1, e2] at o2; exact o2
    subst e
    exact hQ _ _ ⟨p1, o1, I.tch⟩
set_option maxRecDepth 100000 in
/-- Reset of the hash that is handed in. -/
theorem ownReset (b sb size block n : Nat) (st : By) (w : World) (hO : OwnAt w b sb size block n st) :
    Calls Try.prog 67 #[.pointer (some ⟨b, 0, none⟩)] w fun e w' => e = .returned (.tuple #[]) ∧ Hid (OwnAt w' b sb size block 0 (ownInit size) ∧ Tch [b, sb] w w') := by
  obtain ⟨hbs, hs, hs16, hst, hb, hsb⟩ := hO
  have b2 : w.cell? ⟨b, 2, none⟩ = some (.int .i64 n) := by rw [hb.cell]; rfl
  have f2 := hb.free 2
  have O1 : Hid (OwnAt (w.setCell ⟨b, 2, none⟩ (.int .i64 0)) b sb size block 0 st) := ⟨hbs, hs, hs16, hst, hb.set 2 (.int .i64 0), hsb.setOther _ _ (Ne.symm hbs)⟩
  have b3 : (w.setCell ⟨b, 2, none⟩ (.int .i64 0)).cell? ⟨b, 3, none⟩ = some (.slice (some ⟨sb, 0, none⟩) size size) := by rw [O1.out.row.cell]; rfl
  clear hb hsb hst
  go_enter Try.func67, Try.ntmps67
  go_wp2
  refine orLoop _ _ ⟨rfl, rfl⟩ _ b sb size block st O1.out rfl rfl rfl ?_
  rintro a' w' ⟨f, o, t⟩
  rw [lit23 a' f]
  have H := Lib.hid (And.intro o ((Tch.setCell (S := [b, sb]) w ⟨b, 2, none⟩ (.int .i64 0) (by simp)).trans t))
  clear o t f
  go_wp2
  go_end0
  exact ⟨rfl, H.out⟩
set_option maxRecDepth 100000 in
theorem ownSize (b sb size block n : Nat) (st : By) (w : World) (hO : OwnAt w b sb size block n st) :
    Calls Try.prog 115 #[.pointer (some ⟨b, 0, none⟩)] w fun e w' => e = .returned (.int .i64 size) ∧ w = w' := by
  have b0 : w.cell? ⟨b, 0, none⟩ = some (.int .i64 size) := by rw [hO.row.cell]; rfl
  clear hO
  go_enter Try.func115, Try.ntmps115
  go_wp2
  go_ret
  exact ⟨rfl, rfl⟩
set_option maxRecDepth 100000 in
theorem ownBlockSize (b sb size block n : Nat) (st : By) (w : World) (hO : OwnAt w b sb size block n st) :
    Calls Try.prog 114 #[.pointer (some ⟨b, 0, none⟩)] w fun e w' => e = .returned (.int .i64 block) ∧ w = w' := by
  have b1 : w.cell? ⟨b, 1, none⟩ = some (.int .i64 block) := by rw [hO.row.cell]; rfl
  clear hO
  go_enter Try.func114, Try.ntmps114
  go_wp2
  go_ret
  exact ⟨rfl, rfl⟩
end Go.Proofs.Ytgomodhhomekpaa

/-
  append, copy and make over bytes: what they leave, told by Row, Rd, Tch.
-/
namespace Go.Proofs.Ytgomodhhomekpaa
open Go.RowKit Pu Ar

theorem infoByte : (Try.prog.info? 5).map (fun i => (i.zero, i.size, i.bytes)) = some (some (.int .u8 0), 1, 1) := by kernel_rfl
theorem vb_one (x : UInt8) : (vb x).oneCell' = true := rfl
theorem vbs_one (l : By) : ∀ u ∈ l.map vb, u.oneCell' = true := by
  intro u hu; obtain ⟨x, _, rfl⟩ := List.mem_map.1 hu; rfl

theorem add_lit' (b o j : Nat) : (⟨b, o, none⟩ : Addr).add j = ⟨b, o + j, none⟩ := by unfold Addr.add; split <;> simp_all
/-- The slice v is a row of the call's own, from its head on, and holds the bytes l. -/
def Own (w : World) (v : Value) (l : By) : Prop := w.ownsRow 0 5 1 v l.length (l.map vb)
theorem Own.nil (w : World) : Own w (.slice none 0 0) [] := World.ownsRow_nil _ _ _ _
theorem Own.tch {S : List Nat} {w w' : World} {v : Value} {l : By} (h : Own w v l) (k : Tch S w w') (hn : Off S v) : Own w' v l := by
  refine ⟨h.1, ?_⟩
  rcases h.2 with h | ⟨g, cap, cur, rfl, hb, hg, r⟩
  · exact .inl h
  · exact .inr ⟨g, cap, cur, rfl, hb, k.same hg (hn g rfl), r⟩
theorem Own.lt {w : World} {v : Value} {l : By} (h : Own w v l) : ∀ b, v.ownBlock = some b → b < w.heap.size := fun b hb => (World.ownsRow.lt h b hb).2
/-- It reads as what it holds. -/
theorem Own.rd {w : World} {v : Value} {l : By} (h : Own w v l) : Rd w v l := by
  rcases h.2 with ⟨rfl, h0⟩ | ⟨g, cap, cur, rfl, hb, hg, hc, hm, hs, ht⟩
  · have : l = [] := List.eq_nil_of_length_eq_zero h0
    subst this; exact Rd.nil w
  · refine ⟨some ⟨g, 0, none⟩, cap, rfl, hc, hm, .inr ⟨g, 0, rfl, fun i x hx => ?_⟩⟩
    have := World.ownsRow.cells (h : w.ownsRow 0 5 1 _ l.length (l.map vb)) (g := g) rfl i (vb x) (by rw [List.getElem?_map, hx]; rfl)
    rwa [add_lit'] at this
theorem Own.off {w : World} {v : Value} {l : By} (h : Own w v l) {S : List Nat} (hS : ∀ b ∈ S, w.heap.size ≤ b) : Off S v := by
  intro b hb hm
  have := h.lt b hb
  have := hS b hm
  omega

theorem Rd.news {w : World} {p : Option Addr} {cap : Nat} {l : By} (h : Rd w (.slice p l.length cap) l) (h0 : l ≠ []) : ∃ ad, p = some ad ∧ ∀ j u, (l.map vb)[j]? = some u → w.cell? (ad.add j) = some u := by
  obtain ⟨p', cap', hv, _, _, h⟩ := h
  simp only [Value.slice.injEq] at hv
  obtain ⟨rfl, _, rfl⟩ := hv
  rcases h with h | ⟨b, o, rfl, h⟩
  · exact absurd h h0
  · refine ⟨_, rfl, fun j u hu => ?_⟩
    rw [List.getElem?_map] at hu
    cases hx : l[j]? with
    | none => simp [hx] at hu
    | some x =>
      simp [hx] at hu
      subst hu
      rw [add_lit']
      exact h j x hx

theorem run_append_by (w : World) (ty : TypeId) (v u : Value) (xs ys : By) (hown : Own w v xs) (hy : Rd w u ys) (hsz : xs.length + ys.length ≤ 140737488355328) :
    ∃ v' w', (Builtin.append_ #[24, 24] ty #[v, u]).run Try.prog w = .ok v' w' ∧ Own w' v' (xs ++ ys) ∧ Tch v.ownBlock.toList w w' ∧
      (v' = .slice none 0 0 ↔ v = .slice none 0 0 ∧ ys = []) ∧ (v'.ownBlock = v.ownBlock ∨ ∃ g, v'.ownBlock = some g ∧ w.heap.size ≤ g) := by
  obtain ⟨i, hi, hz0, hz1, hz2⟩ := info_parts infoByte
  have ht : Try.prog.underlying 24 = some (.slice 5) := Try.underlying24
  obtain ⟨p, cap, rfl, hcap, hmax, hrd⟩ := hy
  have hy : Rd w (.slice p ys.length cap) ys := ⟨p, cap, rfl, hcap, hmax, hrd⟩
  have fin : ∀ v' w', w'.ownsRow 0 5 1 v' (xs.length + ys.length) (xs.map vb ++ ys.map vb) → Own w' v' (xs ++ ys) := by
    intro v' w' h
    unfold Own
    rw [List.length_append, List.map_append]; exact h
  by_cases h0 : ys = []
  · subst h0
    have hv : ∃ base n cp, v = .slice base n cp ∧ n ≤ cp := by
      rcases hown.2 with ⟨rfl, _⟩ | ⟨g, cp, cur, rfl, _, _, hc, _⟩
      · exact ⟨_, _, _, rfl, Nat.le_refl _⟩
      · exact ⟨_, _, _, rfl, hc⟩
    obtain ⟨base, n, cp, rfl, hn⟩ := hv
    refine ⟨.slice base n cp, w, ?_, by simpa using hown, Tch.refl _ _, by simp, .inl rfl⟩
    cases p <;> cases base <;> simp [Builtin.append_, run_underlying ht, sizeOf, typeInfo, hi, Builtin.lenOf, Builtin.firstCells, loadCells, loadCellsFrom, storeCells, hn]
  · obtain ⟨ad, rfl, hnews⟩ := hy.news h0
    have hpos : 0 < ys.length := List.length_pos_iff.2 h0
    have hown' : w.ownsRow 0 5 1 v xs.length (xs.map vb) := hown
    rcases hown.2 with ⟨rfl, hx0⟩ | ⟨g, scap, cur, rfl, hb, hg, hc, hm, hs, htk⟩
    · have hx : xs = [] := List.eq_nil_of_length_eq_zero hx0
      subst hx
      obtain ⟨v', w', hr, h1, h2, h3⟩ := run_append_own (P := Try.prog) w w.heap.size 24 ty 5 i _ 1 1 ht hi hz0 hz1 hz2 rfl (by decide) (.slice none 0 0) 0 [] (World.ownsRow_nil _ _ _ _) ad ys.length cap (ys.map vb)
        (by simp) hnews (vbs_one ys) (by unfold maxLen at *; omega) (by simpa using hsz) (Nat.le_refl _)
      refine ⟨v', w', hr, fin v' w' ?_, Tch.grown h2, ?_, ?_⟩
      · refine ⟨by simp, ?_⟩
        rcases h1.2 with h | ⟨g, cp, cr, e, hb, r⟩
        · exact .inl (by simpa using h)
        · exact .inr ⟨g, cp, cr, by simpa using e, Nat.zero_le _, by simpa using r⟩
      · rw [h3]; simp
      · right
        rcases h1.2 with h | ⟨g, cp, cr, e, hb, r⟩
        · exact absurd h.2 (by simp; omega)
        · exact ⟨g, by rw [e]; rfl, hb⟩
    · by_cases hroom : xs.length + ys.length ≤ scap
      · have hfit : xs.length * i.size + (ys.map vb).length ≤ cur.size := by rw [hz1, List.length_map, hs]; omega
        have hr := run_append_room (P := Try.prog) w 24 ty 5 i ht hi g xs.length scap cur hg ad ys.length cap (ys.map vb) (by simp [hz1]) hnews (vbs_one ys) hroom hfit
        refine ⟨_, _, hr, fin _ _ ⟨by simp, .inr ⟨g, scap, _, rfl, Nat.zero_le _, setRow_heap w g cur _ _ _ hg, hroom, hm, ?_, ?_⟩⟩, Tch.setRow _ _ _ (by simp [Value.ownBlock]), by simp, .inl rfl⟩
        · simp only [List.size_toArray, List.length_append, List.length_take, List.length_drop, Array.length_toList, hz1, List.length_map]
          omega
        · have e1 : cur.toList.take (xs.length * 1) = xs.map vb := htk
          simp only [hz1]
          rw [e1, show (xs.length + ys.length) * 1 = (xs.map vb ++ ys.map vb).length by simp]
          exact List.take_left
      · have holds : ∀ j u, (xs.map vb)[j]? = some u → w.cell? ((⟨g, 0, none⟩ : Addr).add j) = some u := World.ownsRow.cells hown' rfl
        have hr := run_append_grow (P := Try.prog) w 24 ty 5 i _ ht hi hz0 ⟨g, 0, none⟩ xs.length scap (xs.map vb) (by simp [hz1]) holds ad ys.length cap (ys.map vb) (by simp [hz1]) hnews (by omega) (by omega)
          (growslice_fits (by omega) (by rw [hz2]; omega))
        have hge := grownCap_ge w (xs.length + ys.length) scap 5
        have hcm : grownCap w (xs.length + ys.length) scap 5 ≤ maxLen := grownCap_le_maxLen w _ scap 5 (by unfold maxLen; omega)
        refine ⟨_, _, hr, fin _ _ ⟨by simp, .inr ⟨w.heap.size, _, _, rfl, Nat.zero_le _, heap_alloc_new w.drew _, hge, hcm, ?_, ?_⟩⟩, (Tch.drewN w 1).trans (Tch.alloc _ _), by simp, .inr ⟨_, rfl, Nat.le_refl _⟩⟩
        · simp only [Array.size_append, List.size_toArray, size_zeroCells, List.length_map]
          rw [show (Value.int .u8 0).cells.size = 1 from rfl]
          omega
        · simp only [Array.toList_append, List.append_assoc]
          rw [← List.append_assoc, show (xs.length + ys.length) * 1 = (xs.map vb ++ ys.map vb).length by simp]
          exact List.take_left

theorem wpList_append_by {w : World} {ops : Array Oper} {rest : List Oper} {o : Oper} {a : Act} {Q : Exit → Act → World → Prop} (hgd : o.guard = none) (s x : Operand)
    (ho : o.op = .call { callee := .builtin .append, args := #[s, x], argTypes := #[24, 24] }) (v u : Value) (xs ys : By) (hs : a.eval s = v) (hx : a.eval x = u)
    (hown : Own w v xs) (hy : Rd w u ys) (hsz : xs.length + ys.length ≤ 140737488355328)
    (h : ∀ v' w', Hid (Own w' v' (xs ++ ys) ∧ Tch v.ownBlock.toList w w' ∧ (v' = .slice none 0 0 ↔ v = .slice none 0 0 ∧ ys = []) ∧ (v'.ownBlock = v.ownBlock ∨ ∃ g, v'.ownBlock = some g ∧ w.heap.size ≤ g)) →
      wpList Try.prog ops Q rest (a.put o.dst v') w') : wpList Try.prog ops Q (o :: rest) a w := by
  obtain ⟨v', w', hr, h1⟩ := run_append_by w o.type v u xs ys hown hy hsz
  refine wpList_plain hgd fun _ hK => ?_
  unfold Oper.wp execOp
  simp only [ho, resolve, invoke, builtin, Sem.run_bind, Sem.run_pure, Result.andThen_ok, List.map_toArray, List.map_cons, List.map_nil, hs, hx, hr]
  exact hK _ _ (h v' w' h1)

/-- copy: as many bytes as the shorter of the two has. -/
theorem wpList_copy_by {w : World} {ops : Array Oper} {rest : List Oper} {o : Oper} {a : Act} {Q : Exit → Act → World → Prop} (hgd : o.guard = none) (d s : Operand)
    (ho : o.op = .call { callee := .builtin .copy, args := #[d, s], argTypes := #[24, 24] }) (g off dLen dCap : Nat) (u : Value) (l : By) (t : TypeId) (cur : List Value) (k : Nat) (hk : k = min l.length dLen)
    (hd : a.eval d = .slice (some ⟨g, off, none⟩) dLen dCap) (hs : a.eval s = u) (hl : Rd w u l) (hg : Row w g t cur) (hfit : off + dLen ≤ cur.length)
    (h : ∀ w', Hid (Row w' g t (cur.take off ++ ((l.take k).map vb ++ cur.drop (off + k))) ∧ Tch [g] w w') → wpList Try.prog ops Q rest (a.put o.dst (.int .i64 (k : Int))) w') :
    wpList Try.prog ops Q (o :: rest) a w := by
  have hu : Try.prog.underlying 24 = some (.slice 5) := Try.underlying24
  have hsz : (Try.prog.info? 5).map (·.size) = some 1 := by kernel_rfl
  obtain ⟨p, cap, rfl, hcap, hmax, hrd⟩ := hl
  have hl : Rd w (.slice p l.length cap) l := ⟨p, cap, rfl, hcap, hmax, hrd⟩
  have hkl : (l.take k).length = k := by rw [List.length_take]; omega
  by_cases h0 : k = 0
  · refine wpList_copy_nothing hgd d s _ _ ho _ hu hsz _ _ _ _ _ _ hd hs (show min l.length dLen = 0 by omega) ?_
    have := h w ⟨by rw [h0]; simpa using hg, Tch.refl _ _⟩
    rw [h0] at this
    exact this
  · obtain ⟨ad, rfl, hnews⟩ := hl.news (by intro e; rw [e] at hk; simp at hk; omega)
    have hlen : ((l.take k).map vb).length = Nat.min l.length dLen := by rw [List.length_map, hkl]; exact hk
    refine wpList_copy_own hgd d s _ _ ho _ hu hsz g off dLen dCap ad l.length cap hd hs cur.toArray t hg ((l.take k).map vb) hlen ?_ (by rw [List.length_map, hkl]; simp only [List.size_toArray]; omega) (vbs_one _) ?_
    · intro j v hv
      refine hnews j v ?_
      rw [List.getElem?_map] at hv ⊢
      rw [List.getElem?_take] at hv
      split at hv
      · exact hv
      · simp at hv
    · rw [List.length_map, hkl]
      refine h _ ⟨?_, Tch.setRow _ _ _ (by simp)⟩
      unfold Row
      rw [setRow_heap w g _ _ t _ hg]
end Go.Proofs.Ytgomodhhomekpaa

/-
  The rotation of a word: what math/bits.RotateLeft32 and spec.turned come to.
-/
namespace Go.Proofs.Ytgomodhhomekpaa
open Go.RowKit Pu Ar

theorem rot2 (x : UInt32) (w : World) :
    Calls Try.prog 113 #[.int .u32 (iw x), .int .i64 (-2)] w fun e w' => e = .returned (.int .u32 (iw (rotr x 2))) ∧ w' = w := by
  have e0 : bits .and .u64 (IntKind.u64.wrap (-2)) 31 = 30 := by decide
  have e1 := Ar.shl32_30 x
  have e2 := Ar.shr32_2 x
  have e3 := Ar.bits_or32
  go_enter Try.func113, Try.ntmps113
  go_wp2
  go_ret
  exact ⟨by rw [UInt32.or_comm]; rfl, rfl⟩
theorem rot2' (x : UInt32) (w : World) :
    Calls Try.prog 113 #[.int .u32 (iw x), .int .i64 (-2)] w fun e w' => e = .returned (.int .u32 (iw (rotr x 2))) ∧ w = w' :=
  (rot2 x w).mono fun _ _ h => ⟨h.1, h.2.symm⟩
theorem turned2 (x : UInt32) (w : World) :
    Calls Try.prog 77 #[.int .u32 (iw x), .int .i64 2] w fun e w' => e = .returned (.int .u32 (iw (rotr x 2))) ∧ ∃ k, w' = w.drewN k := by
  have e1 := Ar.shl32_30 x
  have e2 := Ar.shr32_2 x
  have e3 := Ar.bits_or32
  go_enter Try.func77, Try.ntmps77
  go_wp2
  go_quiet (fail)
  go_wp2
  go_ret
  exact ⟨rfl, _, rfl⟩
theorem rot6 (x : UInt32) (w : World) :
    Calls Try.prog 113 #[.int .u32 (iw x), .int .i64 (-6)] w fun e w' => e = .returned (.int .u32 (iw (rotr x 6))) ∧ w' = w := by
  have e0 : bits .and .u64 (IntKind.u64.wrap (-6)) 31 = 26 := by decide
  have e1 := Ar.shl32_26 x
  have e2 := Ar.shr32_6 x
  have e3 := Ar.bits_or32
  go_enter Try.func113, Try.ntmps113
  go_wp2
  go_ret
  exact ⟨by rw [UInt32.or_comm]; rfl, rfl⟩
theorem rot6' (x : UInt32) (w : World) :
    Calls Try.prog 113 #[.int .u32 (iw x), .int .i64 (-6)] w fun e w' => e = .returned (.int .u32 (iw (rotr x 6))) ∧ w = w' :=
  (rot6 x w).mono fun _ _ h => ⟨h.1, h.2.symm⟩
theorem turned6 (x : UInt32) (w : World) :
    Calls Try.prog 77 #[.int .u32 (iw x), .int .i64 6] w fun e w' => e = .returned (.int .u32 (iw (rotr x 6))) ∧ ∃ k, w' = w.drewN k := by
  have e1 := Ar.shl32_26 x
  have e2 := Ar.shr32_6 x
  have e3 := Ar.bits_or32
  go_enter Try.func77, Try.ntmps77
  go_wp2
  go_quiet (fail)
  go_wp2
  go_ret
  exact ⟨rfl, _, rfl⟩
theorem rot7 (x : UInt32) (w : World) :
    Calls Try.prog 113 #[.int .u32 (iw x), .int .i64 (-7)] w fun e w' => e = .returned (.int .u32 (iw (rotr x 7))) ∧ w' = w := by
  have e0 : bits .and .u64 (IntKind.u64.wrap (-7)) 31 = 25 := by decide
  have e1 := Ar.shl32_25 x
  have e2 := Ar.shr32_7 x
  have e3 := Ar.bits_or32
  go_enter Try.func113, Try.ntmps113
  go_wp2
  go_ret
  exact ⟨by rw [UInt32.or_comm]; rfl, rfl⟩
theorem rot7' (x : UInt32) (w : World) :
    Calls Try.prog 113 #[.int .u32 (iw x), .int .i64 (-7)] w fun e w' => e = .returned (.int .u32 (iw (rotr x 7))) ∧ w = w' :=
  (rot7 x w).mono fun _ _ h => ⟨h.1, h.2.symm⟩
theorem turned7 (x : UInt32) (w : World) :
    Calls Try.prog 77 #[.int .u32 (iw x), .int .i64 7] w fun e w' => e = .returned (.int .u32 (iw (rotr x 7))) ∧ ∃ k, w' = w.drewN k := by
  have e1 := Ar.shl32_25 x
  have e2 := Ar.shr32_7 x
  have e3 := Ar.bits_or32
  go_enter Try.func77, Try.ntmps77
  go_wp2
  go_quiet (fail)
  go_wp2
  go_ret
  exact ⟨rfl, _, rfl⟩
theorem rot11 (x : UInt32) (w : World) :
    Calls Try.prog 113 #[.int .u32 (iw x), .int .i64 (-11)] w fun e w' => e = .returned (.int .u32 (iw (rotr x 11))) ∧ w' = w := by
  have e0 : bits .and .u64 (IntKind.u64.wrap (-11)) 31 = 21 := by decide
  have e1 := Ar.shl32_21 x
  have e2 := Ar.shr32_11 x
  have e3 := Ar.bits_or32
  go_enter Try.func113, Try.ntmps113
  go_wp2
  go_ret
  exact ⟨by rw [UInt32.or_comm]; rfl, rfl⟩
theorem rot11' (x : UInt32) (w : World) :
    Calls Try.prog 113 #[.int .u32 (iw x), .int .i64 (-11)] w fun e w' => e = .returned (.int .u32 (iw (rotr x 11))) ∧ w = w' :=
  (rot11 x w).mono fun _ _ h => ⟨h.1, h.2.symm⟩
theorem turned11 (x : UInt32) (w : World) :
    Calls Try.prog 77 #[.int .u32 (iw x), .int .i64 11] w fun e w' => e = .returned (.int .u32 (iw (rotr x 11))) ∧ ∃ k, w' = w.drewN k := by
  have e1 := Ar.shl32_21 x
  have e2 := Ar.shr32_11 x
  have e3 := Ar.bits_or32
  go_enter Try.func77, Try.ntmps77
  go_wp2
  go_quiet (fail)
  go_wp2
  go_ret
  exact ⟨rfl, _, rfl⟩
theorem rot13 (x : UInt32) (w : World) :
    Calls Try.prog 113 #[.int .u32 (iw x), .int .i64 (-13)] w fun e w' => e = .returned (.int .u32 (iw (rotr x 13))) ∧ w' = w := by
  have e0 : bits .and .u64 (IntKind.u64.wrap (-13)) 31 = 19 := by decide
  have e1 := Ar.shl32_19 x
  have e2 := Ar.shr32_13 x
  have e3 := Ar.bits_or32
  go_enter Try.func113, Try.ntmps113
  go_wp2
  go_ret
  exact ⟨by rw [UInt32.or_comm]; rfl, rfl⟩
theorem rot13' (x : UInt32) (w : World) :
    Calls Try.prog 113 #[.int .u32 (iw x), .int .i64 (-13)] w fun e w' => e = .returned (.int .u32 (iw (rotr x 13))) ∧ w = w' :=
  (rot13 x w).mono fun _ _ h => ⟨h.1, h.2.symm⟩
theorem turned13 (x : UInt32) (w : World) :
    Calls Try.prog 77 #[.int .u32 (iw x), .int .i64 13] w fun e w' => e = .returned (.int .u32 (iw (rotr x 13))) ∧ ∃ k, w' = w.drewN k := by
  have e1 := Ar.shl32_19 x
  have e2 := Ar.shr32_13 x
  have e3 := Ar.bits_or32
  go_enter Try.func77, Try.ntmps77
  go_wp2
  go_quiet (fail)
  go_wp2
  go_ret
  exact ⟨rfl, _, rfl⟩
theorem rot17 (x : UInt32) (w : World) :
    Calls Try.prog 113 #[.int .u32 (iw x), .int .i64 (-17)] w fun e w' => e = .returned (.int .u32 (iw (rotr x 17))) ∧ w' = w := by
  have e0 : bits .and .u64 (IntKind.u64.wrap (-17)) 31 = 15 := by decide
  have e1 := Ar.shl32_15 x
  have e2 := Ar.shr32_17 x
  have e3 := Ar.bits_or32
  go_enter Try.func113, Try.ntmps113
  go_wp2
  go_ret
  exact ⟨by rw [UInt32.or_comm]; rfl, rfl⟩
theorem rot17' (x : UInt32) (w : World) :
    Calls Try.prog 113 #[.int .u32 (iw x), .int .i64 (-17)] w fun e w' => e = .returned (.int .u32 (iw (rotr x 17))) ∧ w = w' :=
  (rot17 x w).mono fun _ _ h => ⟨h.1, h.2.symm⟩
theorem turned17 (x : UInt32) (w : World) :
    Calls Try.prog 77 #[.int .u32 (iw x), .int .i64 17] w fun e w' => e = .returned (.int .u32 (iw (rotr x 17))) ∧ ∃ k, w' = w.drewN k := by
  have e1 := Ar.shl32_15 x
  have e2 := Ar.shr32_17 x
  have e3 := Ar.bits_or32
  go_enter Try.func77, Try.ntmps77
  go_wp2
  go_quiet (fail)
  go_wp2
  go_ret
  exact ⟨rfl, _, rfl⟩
theorem rot18 (x : UInt32) (w : World) :
    Calls Try.prog 113 #[.int .u32 (iw x), .int .i64 (-18)] w fun e w' => e = .returned (.int .u32 (iw (rotr x 18))) ∧ w' = w := by
  have e0 : bits .and .u64 (IntKind.u64.wrap (-18)) 31 = 14 := by decide
  have e1 := Ar.shl32_14 x
  have e2 := Ar.shr32_18 x
  have e3 := Ar.bits_or32
  go_enter Try.func113, Try.ntmps113
  go_wp2
  go_ret
  exact ⟨by rw [UInt32.or_comm]; rfl, rfl⟩
theorem rot18' (x : UInt32) (w : World) :
    Calls Try.prog 113 #[.int .u32 (iw x), .int .i64 (-18)] w fun e w' => e = .returned (.int .u32 (iw (rotr x 18))) ∧ w = w' :=
  (rot18 x w).mono fun _ _ h => ⟨h.1, h.2.symm⟩
theorem turned18 (x : UInt32) (w : World) :
    Calls Try.prog 77 #[.int .u32 (iw x), .int .i64 18] w fun e w' => e = .returned (.int .u32 (iw (rotr x 18))) ∧ ∃ k, w' = w.drewN k := by
  have e1 := Ar.shl32_14 x
  have e2 := Ar.shr32_18 x
  have e3 := Ar.bits_or32
  go_enter Try.func77, Try.ntmps77
  go_wp2
  go_quiet (fail)
  go_wp2
  go_ret
  exact ⟨rfl, _, rfl⟩
theorem rot19 (x : UInt32) (w : World) :
    Calls Try.prog 113 #[.int .u32 (iw x), .int .i64 (-19)] w fun e w' => e = .returned (.int .u32 (iw (rotr x 19))) ∧ w' = w := by
  have e0 : bits .and .u64 (IntKind.u64.wrap (-19)) 31 = 13 := by decide
  have e1 := Ar.shl32_13 x
  have e2 := Ar.shr32_19 x
  have e3 := Ar.bits_or32
  go_enter Try.func113, Try.ntmps113
  go_wp2
  go_ret
  exact ⟨by rw [UInt32.or_comm]; rfl, rfl⟩
theorem rot19' (x : UInt32) (w : World) :
    Calls Try.prog 113 #[.int .u32 (iw x), .int .i64 (-19)] w fun e w' => e = .returned (.int .u32 (iw (rotr x 19))) ∧ w = w' :=
  (rot19 x w).mono fun _ _ h => ⟨h.1, h.2.symm⟩
theorem turned19 (x : UInt32) (w : World) :
    Calls Try.prog 77 #[.int .u32 (iw x), .int .i64 19] w fun e w' => e = .returned (.int .u32 (iw (rotr x 19))) ∧ ∃ k, w' = w.drewN k := by
  have e1 := Ar.shl32_13 x
  have e2 := Ar.shr32_19 x
  have e3 := Ar.bits_or32
  go_enter Try.func77, Try.ntmps77
  go_wp2
  go_quiet (fail)
  go_wp2
  go_ret
  exact ⟨rfl, _, rfl⟩
theorem rot22 (x : UInt32) (w : World) :
    Calls Try.prog 113 #[.int .u32 (iw x), .int .i64 (-22)] w fun e w' => e = .returned (.int .u32 (iw (rotr x 22))) ∧ w' = w := by
  have e0 : bits .and .u64 (IntKind.u64.wrap (-22)) 31 = 10 := by decide
  have e1 := Ar.shl32_10 x
  have e2 := Ar.shr32_22 x
  have e3 := Ar.bits_or32
  go_enter Try.func113, Try.ntmps113
  go_wp2
  go_ret
  exact ⟨by rw [UInt32.or_comm]; rfl, rfl⟩
theorem rot22' (x : UInt32) (w : World) :
    Calls Try.prog 113 #[.int .u32 (iw x), .int .i64 (-22)] w fun e w' => e = .returned (.int .u32 (iw (rotr x 22))) ∧ w = w' :=
  (rot22 x w).mono fun _ _ h => ⟨h.1, h.2.symm⟩
theorem turned22 (x : UInt32) (w : World) :
    Calls Try.prog 77 #[.int .u32 (iw x), .int .i64 22] w fun e w' => e = .returned (.int .u32 (iw (rotr x 22))) ∧ ∃ k, w' = w.drewN k := by
  have e1 := Ar.shl32_10 x
  have e2 := Ar.shr32_22 x
  have e3 := Ar.bits_or32
  go_enter Try.func77, Try.ntmps77
  go_wp2
  go_quiet (fail)
  go_wp2
  go_ret
  exact ⟨rfl, _, rfl⟩
theorem rot25 (x : UInt32) (w : World) :
    Calls Try.prog 113 #[.int .u32 (iw x), .int .i64 (-25)] w fun e w' => e = .returned (.int .u32 (iw (rotr x 25))) ∧ w' = w := by
  have e0 : bits .and .u64 (IntKind.u64.wrap (-25)) 31 = 7 := by decide
  have e1 := Ar.shl32_7 x
  have e2 := Ar.shr32_25 x
  have e3 := Ar.bits_or32
  go_enter Try.func113, Try.ntmps113
  go_wp2
  go_ret
  exact ⟨by rw [UInt32.or_comm]; rfl, rfl⟩
theorem rot25' (x : UInt32) (w : World) :
    Calls Try.prog 113 #[.int .u32 (iw x), .int .i64 (-25)] w fun e w' => e = .returned (.int .u32 (iw (rotr x 25))) ∧ w = w' :=
  (rot25 x w).mono fun _ _ h => ⟨h.1, h.2.symm⟩
theorem turned25 (x : UInt32) (w : World) :
    Calls Try.prog 77 #[.int .u32 (iw x), .int .i64 25] w fun e w' => e = .returned (.int .u32 (iw (rotr x 25))) ∧ ∃ k, w' = w.drewN k := by
  have e1 := Ar.shl32_7 x
  have e2 := Ar.shr32_25 x
  have e3 := Ar.bits_or32
  go_enter Try.func77, Try.ntmps77
  go_wp2
  go_quiet (fail)
  go_wp2
  go_ret
  exact ⟨rfl, _, rfl⟩
end Go.Proofs.Ytgomodhhomekpaa

/-
  One round of the inner loop of blockGeneric.
-/
namespace Go.Proofs.Ytgomodhhomekpaa
open Go.RowKit Pu Ar
def bgKeep : List Nat := [0, 1, 4, 5, 6, 7, 8, 9, 10, 11, 12]
/-- Behind a round: the word y stored at i, the eight letters turned by the round of k and y, one more in the counter. -/
def PR (a : Act) (w : World) (Wb i : Nat) (s : S8) (k y : UInt32) (a' : Act) (w' : World) : Prop :=
  Frm 283 a' ∧ Same bgKeep a a' ∧ G a' 80 = .int .i64 ((i : Int) + 1) ∧ G a' 13 = .int .u32 (iw (rnd s k y).a) ∧ G a' 14 = .int .u32 (iw (rnd s k y).b) ∧ G a' 15 = .int .u32 (iw (rnd s k y).c) ∧ G a' 16 = .int .u32 (iw (rnd s k y).d)
   ∧ G a' 17 = .int .u32 (iw (rnd s k y).e) ∧ G a' 18 = .int .u32 (iw (rnd s k y).f) ∧ G a' 19 = .int .u32 (iw (rnd s k y).g) ∧ G a' 20 = .int .u32 (iw (rnd s k y).h) ∧ ∃ n, w' = (w.setCell ⟨Wb, i, none⟩ (.int .u32 (iw y))).drewN n
set_option maxHeartbeats 600000 in
set_option maxRecDepth 100000 in
theorem bgRound16 (a : Act) (w : World) (h : Frm 283 a) (Q : Exit → Act → World → Prop) (pb po len cap Wb i : Nat) (s : S8) (k0 : UInt32) (x0 x1 x2 x3 : UInt8)
    (hi : i < 16) (hlen : 64 ≤ len) (hWb : 0 < Wb)
    (g1 : G a 1 = .slice (some ⟨pb, po, none⟩) len cap) (g4 : G a 4 = .pointer (some ⟨Wb, 0, none⟩)) (g80 : G a 80 = .int .i64 i)
    (g13 : G a 13 = .int .u32 (iw s.a)) (g14 : G a 14 = .int .u32 (iw s.b)) (g15 : G a 15 = .int .u32 (iw s.c)) (g16 : G a 16 = .int .u32 (iw s.d))
    (g17 : G a 17 = .int .u32 (iw s.e)) (g18 : G a 18 = .int .u32 (iw s.f)) (g19 : G a 19 = .int .u32 (iw s.g)) (g20 : G a 20 = .int .u32 (iw s.h))
    (c0 : w.cell? ⟨pb, po + i * 4, none⟩ = some (.int .u8 (ib x0))) (c1 : w.cell? ⟨pb, po + (i * 4 + 1), none⟩ = some (.int .u8 (ib x1)))
    (c2 : w.cell? ⟨pb, po + (i * 4 + 2), none⟩ = some (.int .u8 (ib x2))) (c3 : w.cell? ⟨pb, po + (i * 4 + 3), none⟩ = some (.int .u8 (ib x3))) 
    (cW : ∃ y, w.cell? ⟨Wb, i, none⟩ = some y) (fW : w.frozen? ⟨Wb, i, none⟩ = false) (cK : w.cell? ⟨0, i, none⟩ = some (.int .u32 (iw k0)))
    (hQ : ∀ a' w', PR a w Wb i s k0 (word x0 x1 x2 x3) a' w' → Q .normal a' w') :
    (part (bodyOf Try.f112) [true, true, false, false, false, true, false, true, false, true, false, false]).wp Try.prog Q a w := by
  obtain ⟨y, cW⟩ := cW
  have e1 := fun x => Ar.shl32_24 x
  have e2 := fun x => Ar.shl32_16 x
  have e3 := fun x => Ar.shl32_8 x
  have e4 := Ar.bits_or32
  have e5 := Ar.byte32_wrap
  have e6 := Ar.bits_xor32
  have e7 := Ar.bits_and32
  have e8 := Ar.bits_not32'
  have e9 := Ar.wrap_add32
  have e10 : IntKind.u32.signed = false := rfl
  conv => arg 2; whnf
  rw [lit283 a h]
  simp only [g1, g4, g80, g13, g14, g15, g16, g17, g18, g19, g20]
  have H := Lib.hid h
  have H1 := Lib.hid g1
  have H4 := Lib.hid g4
  clear h g1 g4 g80 g13 g14 g15 g16 g17 g18 g19 g20
  go_wp2
  refine wp_region_quiet_tail 31 (by kernel_rfl) (by kernel_rfl) ?_
  simp only [List.take_succ_cons, List.take_zero, List.drop_succ_cons, List.drop_zero]
  repeat (go_big_quiet_step (fail))
  refine wpQuiet_nil ?_
  go_wp2
  generalize hW1 : (World.setCell _ _ _).drew = W1
  have k1 : W1.cell? ⟨0, i, none⟩ = some (.int .u32 (iw k0)) := by rw [← hW1]; exact (World.cell?_of_block (heap_setCell_other w _ _ _ (by simp; omega))).trans cK
  have k2 : W1.cell? ⟨Wb, i, none⟩ = some (.int .u32 (iw (word x0 x1 x2 x3))) := by rw [← hW1]; exact World.cell?_setCell_same w _ _ cW
  generalize hY : word x0 x1 x2 x3 = Y at k2 hQ
  have HW1 := Lib.hid hW1
  have HY := Lib.hid hY
  clear hW1 cK cW fW c0 c1 c2 c3 hY
  refine wp_region_quiet_lit (by kernel_rfl) (by kernel_rfl) ?_
  repeat (go_big_quiet_step ((first | (with_reducible apply Calls.quiet_of_same; with_reducible exact rot6 _ _) | (with_reducible apply Calls.quiet_of_same; with_reducible exact rot11 _ _) | (with_reducible apply Calls.quiet_of_same; with_reducible exact rot25 _ _))))
  refine wpQuiet_nil ?_
  intro _ hw'
  obtain ⟨nq, hw''⟩ := hw'
  subst hw''
  go_wp2_with (go_at_call 113; first | ((with_reducible apply Calls.mono; focus (with_reducible exact rot2' _ _)); rintro e w' ⟨rfl, rfl⟩) | ((with_reducible apply Calls.mono; focus (with_reducible exact rot13' _ _)); rintro e w' ⟨rfl, rfl⟩) | ((with_reducible apply Calls.mono; focus (with_reducible exact rot22' _ _)); rintro e w' ⟨rfl, rfl⟩))
  have E1 := H1.out
  have E4 := H4.out
  have EW := HW1.out
  exact ⟨⟨rfl, rfl⟩, ⟨rfl, E1.symm, E4.symm, rfl, rfl, rfl, rfl, rfl, rfl, rfl, rfl, trivial⟩, rfl, rfl, rfl, rfl, rfl, rfl, rfl, rfl, rfl, 1 + nq, by rw [← EW, ← HY.out, World.drewN_drew]; rfl⟩
set_option maxHeartbeats 600000 in
set_option maxRecDepth 100000 in
theorem bgRoundHi (a : Act) (w : World) (h : Frm 283 a) (Q : Exit → Act → World → Prop) (Wb i : Nat) (s : S8) (k0 : UInt32) (v2 v7 v15 v16 : UInt32)
    (hi0 : 16 ≤ i) (hi : i < 64) (hWb : 0 < Wb)
    (g4 : G a 4 = .pointer (some ⟨Wb, 0, none⟩)) (g80 : G a 80 = .int .i64 i)
    (g13 : G a 13 = .int .u32 (iw s.a)) (g14 : G a 14 = .int .u32 (iw s.b)) (g15 : G a 15 = .int .u32 (iw s.c)) (g16 : G a 16 = .int .u32 (iw s.d))
    (g17 : G a 17 = .int .u32 (iw s.e)) (g18 : G a 18 = .int .u32 (iw s.f)) (g19 : G a 19 = .int .u32 (iw s.g)) (g20 : G a 20 = .int .u32 (iw s.h))
    (c0 : w.cell? ⟨Wb, i - 2, none⟩ = some (.int .u32 (iw v2))) (c1 : w.cell? ⟨Wb, i - 7, none⟩ = some (.int .u32 (iw v7)))
    (c2 : w.cell? ⟨Wb, i - 15, none⟩ = some (.int .u32 (iw v15))) (c3 : w.cell? ⟨Wb, i - 16, none⟩ = some (.int .u32 (iw v16)))
    (cW : ∃ y, w.cell? ⟨Wb, i, none⟩ = some y) (fW : w.frozen? ⟨Wb, i, none⟩ = false) (cK : w.cell? ⟨0, i, none⟩ = some (.int .u32 (iw k0)))
    (hQ : ∀ a' w', PR a w Wb i s k0 ((rotr v2 17 ^^^ rotr v2 19 ^^^ v2 >>> 10) + v7 + (rotr v15 7 ^^^ rotr v15 18 ^^^ v15 >>> 3) + v16) a' w' → Q .normal a' w') :
    (part (bodyOf Try.f112) [true, true, false, false, false, true, false, true, false, true, false, false]).wp Try.prog Q a w := by
  obtain ⟨y, cW⟩ := cW
  have e1 := fun x => Ar.shr32_10 x
  have e2 := fun x => Ar.shr32_3 x
  have e4 := Ar.bits_or32
  have e5 := Ar.byte32_wrap
  have e6 := Ar.bits_xor32
  have e7 := Ar.bits_and32
  have e8 := Ar.bits_not32'
  have e9 := Ar.wrap_add32
  have e10 : IntKind.u32.signed = false := rfl
  conv => arg 2; whnf
  rw [lit283 a h]
  simp only [g4, g80, g13, g14, g15, g16, g17, g18, g19, g20]
  have H := Lib.hid h
  have H4 := Lib.hid g4
  clear h g4 g80 g13 g14 g15 g16 g17 g18 g19 g20
  go_wp2_with (go_at_call 113; first | ((with_reducible apply Calls.mono; focus (with_reducible exact rot17' _ _)); rintro e w' ⟨rfl, rfl⟩) | ((with_reducible apply Calls.mono; focus (with_reducible exact rot19' _ _)); rintro e w' ⟨rfl, rfl⟩) | ((with_reducible apply Calls.mono; focus (with_reducible exact rot7' _ _)); rintro e w' ⟨rfl, rfl⟩) | ((with_reducible apply Calls.mono; focus (with_reducible exact rot18' _ _)); rintro e w' ⟨rfl, rfl⟩))
  refine wp_region_quiet_tail 15 (by kernel_rfl) (by kernel_rfl) ?_
  simp only [List.take_succ_cons, List.take_zero, List.drop_succ_cons, List.drop_zero]
  repeat (go_big_quiet_step (fail))
  refine wpQuiet_nil ?_
  go_wp2
  generalize hW1 : (World.setCell _ _ _).drew = W1
  have k1 : W1.cell? ⟨0, i, none⟩ = some (.int .u32 (iw k0)) := by rw [← hW1]; exact (World.cell?_of_block (heap_setCell_other w _ _ _ (by simp; omega))).trans cK
  have k2 : W1.cell? ⟨Wb, i, none⟩ = some (.int .u32 (iw ((rotr v2 17 ^^^ rotr v2 19 ^^^ v2 >>> 10) + v7 + (rotr v15 7 ^^^ rotr v15 18 ^^^ v15 >>> 3) + v16))) := by rw [← hW1]; exact World.cell?_setCell_same w _ _ cW
  generalize hY : ((rotr v2 17 ^^^ rotr v2 19 ^^^ v2 >>> 10) + v7 + (rotr v15 7 ^^^ rotr v15 18 ^^^ v15 >>> 3) + v16) = Y at k2 hQ
  have HW1 := Lib.hid hW1
  have HY := Lib.hid hY
  clear hW1 cK cW fW c0 c1 c2 c3 hY
  refine wp_region_quiet_lit (by kernel_rfl) (by kernel_rfl) ?_
  repeat (go_big_quiet_step ((first | (with_reducible apply Calls.quiet_of_same; with_reducible exact rot6 _ _) | (with_reducible apply Calls.quiet_of_same; with_reducible exact rot11 _ _) | (with_reducible apply Calls.quiet_of_same; with_reducible exact rot25 _ _))))
  refine wpQuiet_nil ?_
  intro _ hw'
  obtain ⟨nq, hw''⟩ := hw'
  subst hw''
  go_wp2_with (go_at_call 113; first | ((with_reducible apply Calls.mono; focus (with_reducible exact rot2' _ _)); rintro e w' ⟨rfl, rfl⟩) | ((with_reducible apply Calls.mono; focus (with_reducible exact rot13' _ _)); rintro e w' ⟨rfl, rfl⟩) | ((with_reducible apply Calls.mono; focus (with_reducible exact rot22' _ _)); rintro e w' ⟨rfl, rfl⟩))
  have E4 := H4.out
  have EW := HW1.out
  exact ⟨⟨rfl, rfl⟩, ⟨rfl, rfl, E4.symm, rfl, rfl, rfl, rfl, rfl, rfl, rfl, rfl, trivial⟩, rfl, rfl, rfl, rfl, rfl, rfl, rfl, rfl, rfl, 1 + nq, by rw [← EW, ← HY.out, World.drewN_drew]⟩
end Go.Proofs.Ytgomodhhomekpaa

/-
  The inner loop of blockGeneric: 64 rounds.
-/
namespace Go.Proofs.Ytgomodhhomekpaa
open Go.RowKit Pu Ar
def WIs (w : World) (b : Nat) (ws : List UInt32) : Prop := ws.length = 64 ∧ Row w b 117 (ws.map vw)
theorem WIs.cell {w : World} {b : Nat} {ws : List UInt32} (h : WIs w b ws) (j : Nat) (hj : j < 64) : w.cell? ⟨b, j, none⟩ = some (.int .u32 (iw (ws.getD j 0))) := by
  rw [h.2.cell]
  simp [List.getD_eq_getElem?_getD, List.getElem?_eq_getElem (show j < ws.length by rw [h.1]; exact hj), vw]
theorem WIs.set {w : World} {b : Nat} {ws : List UInt32} (h : WIs w b ws) (j : Nat) (y : UInt32) (n : Nat) : WIs ((w.setCell ⟨b, j, none⟩ (.int .u32 (iw y))).drewN n) b (ws.set j y) := by
  refine ⟨by simp [h.1], ?_⟩
  have e := (h.2.set j (.int .u32 (iw y))).drewN n
  rwa [show List.map vw (ws.set j y) = (List.map vw ws).set j (.int .u32 (iw y)) by rw [List.map_set]; rfl]
theorem KIs.cell {w : World} {kt : List UInt32} (h : KIs w kt) (j : Nat) (hj : j < 64) : w.cell? ⟨0, j, none⟩ = some (.int .u32 (iw (kt.getD j 0))) :=
  WIs.cell (b := 0) h j hj
theorem take_next (ws : List UInt32) (blk : By) (i : Nat) (hi : i < ws.length) (h : ws.take i = sched blk i) : (ws.set i (W blk i)).take (i + 1) = sched blk (i + 1) := by
  rw [List.take_succ_eq_append_getElem (by simpa using hi)]
  simp [sched, h, W, List.take_set_of_le]
theorem ws_get (ws : List UInt32) (blk : By) (i j : Nat) (h : ws.take i = sched blk i) (hj : j < i) : ws.getD j 0 = (sched blk i).getD j 0 := by
  rw [← h]; simp [List.getD_eq_getElem?_getD, hj]

/-- The inner loop's own: after i rounds. -/
structure II (a0 : Act) (w0 : World) (kt : List UInt32) (Wb : Nat) (bs : S8) (blk : By) (i : Nat) (a : Act) (w : World) : Prop where
  frm : Frm 283 a
  same : Same bgKeep a0 a
  le : i ≤ 64
  g80 : G a 80 = .int .i64 (i : Int)
  g13 : G a 13 = .int .u32 (iw (rounds kt blk bs i).a)
  g14 : G a 14 = .int .u32 (iw (rounds kt blk bs i).b)
  g15 : G a 15 = .int .u32 (iw (rounds kt blk bs i).c)
  g16 : G a 16 = .int .u32 (iw (rounds kt blk bs i).d)
  g17 : G a 17 = .int .u32 (iw (rounds kt blk bs i).e)
  g18 : G a 18 = .int .u32 (iw (rounds kt blk bs i).f)
  g19 : G a 19 = .int .u32 (iw (rounds kt blk bs i).g)
  g20 : G a 20 = .int .u32 (iw (rounds kt blk bs i).h)
  ws : ∃ ws, WIs w Wb ws ∧ ws.take i = sched blk i
  tch : Tch [Wb] w0 w

def PX (a : Act) (w : World) (a' : Act) (w' : World) : Prop := Frm 283 a' ∧ Same [0, 1, 4, 5, 6, 7, 8, 9, 10, 11, 12, 13, 14, 15, 16, 17, 18, 19, 20, 80] a a' ∧ w' = w
set_option maxRecDepth 100000 in
theorem bgLeave (a : Act) (w : World) (h : Frm 283 a) (Q : Exit → Act → World → Prop) (g80 : G a 80 = .int .i64 64) (hQ : ∀ a' w', PX a w a' w' → Q (.exit 2) a' w') :
    (part (bodyOf Try.f112) [true, true, false, false, false, true, false, true, false, true, false, false]).wp Try.prog Q a w := by
  conv => arg 2; whnf
  rw [lit283 a h]
  simp only [g80]
  have H := Lib.hid h
  have H1 := Lib.hid g80
  clear h g80
  go_wp2
  have E1 := H1.out
  exact ⟨⟨rfl, rfl⟩, ⟨rfl, rfl, rfl, rfl, rfl, rfl, rfl, rfl, rfl, rfl, rfl, rfl, rfl, rfl, rfl, rfl, rfl, rfl, rfl, E1.symm, trivial⟩, rfl⟩

theorem bgLoop_eq : part (bodyOf Try.f112) [true, true, false, false, false, true, false, true, false, true] = .block 2 (.loop (part (bodyOf Try.f112) [true, true, false, false, false, true, false, true, false, true, false, false])) := by kernel_rfl

theorem bgInner (a : Act) (w : World) (h : Frm 283 a) (Q : Exit → Act → World → Prop) (kt : List UInt32) (pb po len cap Wb : Nat) (bs : S8) (blk : By)
    (hlen : 64 ≤ len) (hK : KIs w kt) (hWb : 0 < Wb) (hpb : pb ≠ Wb)
    (g1 : G a 1 = .slice (some ⟨pb, po, none⟩) len cap) (g4 : G a 4 = .pointer (some ⟨Wb, 0, none⟩)) (g80 : G a 80 = .int .i64 0)
    (g13 : G a 13 = .int .u32 (iw bs.a)) (g14 : G a 14 = .int .u32 (iw bs.b)) (g15 : G a 15 = .int .u32 (iw bs.c)) (g16 : G a 16 = .int .u32 (iw bs.d))
    (g17 : G a 17 = .int .u32 (iw bs.e)) (g18 : G a 18 = .int .u32 (iw bs.f)) (g19 : G a 19 = .int .u32 (iw bs.g)) (g20 : G a 20 = .int .u32 (iw bs.h))
    (hc : ∀ j, j < 64 → w.cell? ⟨pb, po + j, none⟩ = some (.int .u8 (ib (blk.getD j 0)))) (hW : ∃ ws, WIs w Wb ws)
    (hQ : ∀ a' w', II a w kt Wb bs blk 64 a' w' → Q .normal a' w') :
    (part (bodyOf Try.f112) [true, true, false, false, false, true, false, true, false, true]).wp Try.prog Q a w := by
  rw [bgLoop_eq]
  refine wp_block ?_
  refine wp_loop (fun a' w' => ∃ i, II a w kt Wb bs blk i a' w') (fun a' _ => 64 - (intOf (G a' 80)).toNat) ?_ ?_
  · obtain ⟨ws, hws⟩ := hW
    refine ⟨0, h, ?_, by omega, g80, g13, g14, g15, g16, g17, g18, g19, g20, ⟨ws, hws, by simp [sched]⟩, Tch.refl _ _⟩
    simp [Same, bgKeep]
  · rintro a1 w1 ⟨i, I⟩
    have e1 : G a1 1 = .slice (some ⟨pb, po, none⟩) len cap := (I.same.get 1 rfl).trans g1
    have e4 : G a1 4 = .pointer (some ⟨Wb, 0, none⟩) := (I.same.get 4 rfl).trans g4
    obtain ⟨ws, hws, htake⟩ := I.ws
    have hK1 : KIs w1 kt := hK.tch I.tch (by simp; omega)
    have next : ∀ y, y = W blk i → i < 64 → ∀ a' w', PR a1 w1 Wb i (rounds kt blk bs i) (kt.getD i 0) y a' w' →
        Exit.then (fun a' w' => (∃ i, II a w kt Wb bs blk i a' w') ∧ 64 - (intOf (G a' 80)).toNat < 64 - (intOf (G a1 80)).toNat) (Exit.inBlock 2 Q) .normal a' w' := by
      rintro y hy hi a' w' ⟨p1, p2, p3, p4, p5, p6, p7, p8, p9, p10, p11, n, hw'⟩
      subst hy
      refine ⟨⟨i + 1, p1, ?_, by omega, p3, p4, p5, p6, p7, p8, p9, p10, p11, ⟨ws.set i (W blk i), by rw [hw']; exact hws.set _ _ _, take_next _ _ _ (by rw [hws.1]; exact hi) htake⟩, ?_⟩, ?_⟩
      · have s := I.same
        simp only [Same, bgKeep] at s p2 ⊢
        simp only [p2, s, and_self]
      · rw [hw']
        exact I.tch.trans ((Tch.setCell w1 ⟨Wb, i, none⟩ _ (by simp)).trans (Tch.drewN _ _))
      · rw [p3, I.g80]; simp [intOf]; omega
    have hfree := hws.2.free i
    by_cases h16 : i < 16
    · have cc : ∀ j, j < 64 → w1.cell? ⟨pb, po + j, none⟩ = some (.int .u8 (ib (blk.getD j 0))) := fun j hj => I.tch.cell (hc j hj) (by simpa using hpb)
      refine bgRound16 a1 w1 I.frm _ pb po len cap Wb i _ _ _ _ _ _ h16 hlen hWb e1 e4 I.g80 I.g13 I.g14 I.g15 I.g16 I.g17 I.g18 I.g19 I.g20
        (cc (i * 4) (by omega)) (cc (i * 4 + 1) (by omega)) (cc (i * 4 + 2) (by omega)) (cc (i * 4 + 3) (by omega)) ⟨_, hws.cell i (by omega)⟩ hfree (hK1.cell i (by omega)) ?_
      refine next _ ?_ (by omega)
      simp only [W, wNext, sched_length, h16, if_true, Nat.mul_comm]
    · by_cases h64 : i < 64
      · refine bgRoundHi a1 w1 I.frm _ Wb i _ _ (ws.getD (i - 2) 0) (ws.getD (i - 7) 0) (ws.getD (i - 15) 0) (ws.getD (i - 16) 0) (by omega) h64 hWb e4 I.g80 I.g13 I.g14 I.g15 I.g16 I.g17 I.g18 I.g19 I.g20
          (hws.cell _ (by omega)) (hws.cell _ (by omega)) (hws.cell _ (by omega)) (hws.cell _ (by omega)) ⟨_, hws.cell i (by omega)⟩ hfree (hK1.cell i (by omega)) ?_
        refine next _ ?_ h64
        simp only [W, wNext, sched_length, h16, if_false]
        rw [ws_get ws blk i (i - 2) htake (by omega), ws_get ws blk i (i - 7) htake (by omega), ws_get ws blk i (i - 15) htake (by omega), ws_get ws blk i (i - 16) htake (by omega)]
      · have hi : i = 64 := by have := I.le; omega
        subst hi
        refine bgLeave a1 w1 I.frm _ I.g80 ?_
        rintro a' w' ⟨q1, q2, q3⟩
        subst q3
        simp only [Exit.then, Exit.inBlock, if_true]
        have s := I.same
        have g := I.g80
        refine hQ _ _ ⟨q1, ?_, by omega, ?_, ?_, ?_, ?_, ?_, ?_, ?_, ?_, ?_, I.ws, I.tch⟩
        · simp only [Same, bgKeep] at s q2 ⊢
          simp only [q2, s, and_self]
        · exact (q2.get 80 rfl).trans I.g80
        · exact (q2.get 13 rfl).trans I.g13
        · exact (q2.get 14 rfl).trans I.g14
        · exact (q2.get 15 rfl).trans I.g15
        · exact (q2.get 16 rfl).trans I.g16
        · exact (q2.get 17 rfl).trans I.g17
        · exact (q2.get 18 rfl).trans I.g18
        · exact (q2.get 19 rfl).trans I.g19
        · exact (q2.get 20 rfl).trans I.g20
end Go.Proofs.Ytgomodhhomekpaa

/-
  blockGeneric: what stands around the inner loop.
-/
namespace Go.Proofs.Ytgomodhhomekpaa
open Go.RowKit Pu Ar
def lenOf : Value → Nat | .slice _ n _ => n | _ => 0
def boKeep : List Nat := [0, 1, 4, 5, 6, 7, 8, 9, 10, 11, 12]
def PS (l : List Nat) (a : Act) (w : World) (a' : Act) (w' : World) : Prop := Frm 283 a' ∧ Same l a a' ∧ w' = w
set_option maxRecDepth 100000 in
theorem boTestYes (a : Act) (w : World) (h : Frm 283 a) (Q : Exit → Act → World → Prop) (p : Option Addr) (len cap : Nat) (hlen : 64 ≤ len)
    (g1 : G a 1 = .slice p len cap) (hQ : ∀ a' w', PS boKeep a w a' w' → Q .normal a' w') :
    (part (bodyOf Try.f112) [true, true, false, false, false, false]).wp Try.prog Q a w := by
  conv => arg 2; whnf
  rw [lit283 a h]
  simp only [g1]
  have H1 := Lib.hid g1
  clear h g1
  go_wp2
  have E1 := H1.out
  exact ⟨⟨rfl, rfl⟩, ⟨rfl, E1.symm, rfl, rfl, rfl, rfl, rfl, rfl, rfl, rfl, rfl, trivial⟩, rfl⟩
set_option maxRecDepth 100000 in
theorem boTestNo (a : Act) (w : World) (h : Frm 283 a) (Q : Exit → Act → World → Prop) (p : Option Addr) (len cap : Nat) (hlen : len < 64)
    (g1 : G a 1 = .slice p len cap) (hQ : ∀ a' w', PS boKeep a w a' w' → Q (.exit 0) a' w') :
    (part (bodyOf Try.f112) [true, true, false, false, false, false]).wp Try.prog Q a w := by
  conv => arg 2; whnf
  rw [lit283 a h]
  simp only [g1]
  have H1 := Lib.hid g1
  clear h g1
  go_wp2
  have E1 := H1.out
  exact ⟨⟨rfl, rfl⟩, ⟨rfl, E1.symm, rfl, rfl, rfl, rfl, rfl, rfl, rfl, rfl, rfl, trivial⟩, rfl⟩
def PL (a : Act) (w : World) (a' : Act) (w' : World) : Prop := Frm 283 a' ∧ Same boKeep a a' ∧ w' = w ∧ G a' 13 = G a 5 ∧ G a' 14 = G a 6 ∧ G a' 15 = G a 7 ∧ G a' 16 = G a 8 ∧ G a' 17 = G a 9 ∧ G a' 18 = G a 10 ∧ G a' 19 = G a 11 ∧ G a' 20 = G a 12
set_option maxRecDepth 100000 in
theorem boLetters (a : Act) (w : World) (h : Frm 283 a) (Q : Exit → Act → World → Prop) (hQ : ∀ a' w', PL a w a' w' → Q .normal a' w') :
    (part (bodyOf Try.f112) [true, true, false, false, false, true, false, false]).wp Try.prog Q a w := by
  conv => arg 2; whnf
  rw [lit283 a h]
  clear h
  go_wp2
  exact ⟨⟨rfl, rfl⟩, ⟨rfl, rfl, rfl, rfl, rfl, rfl, rfl, rfl, rfl, rfl, rfl, trivial⟩, rfl, rfl, rfl, rfl, rfl, rfl, rfl, rfl, rfl⟩
def PZ (a : Act) (w : World) (a' : Act) (w' : World) : Prop := Frm 283 a' ∧ Same [0, 1, 4, 5, 6, 7, 8, 9, 10, 11, 12, 13, 14, 15, 16, 17, 18, 19, 20] a a' ∧ w' = w ∧ G a' 80 = .int .i64 0
set_option maxRecDepth 100000 in
theorem boZero (a : Act) (w : World) (h : Frm 283 a) (Q : Exit → Act → World → Prop) (hQ : ∀ a' w', PZ a w a' w' → Q .normal a' w') :
    (part (bodyOf Try.f112) [true, true, false, false, false, true, false, true, false, false]).wp Try.prog Q a w := by
  conv => arg 2; whnf
  rw [lit283 a h]
  clear h
  go_wp2
  exact ⟨⟨rfl, rfl⟩, ⟨rfl, rfl, rfl, rfl, rfl, rfl, rfl, rfl, rfl, rfl, rfl, rfl, rfl, rfl, rfl, rfl, rfl, rfl, rfl, trivial⟩, rfl, rfl⟩
def PE (a : Act) (w : World) (v1 : Value) (s : S8) (a' : Act) (w' : World) : Prop :=
  Frm 283 a' ∧ Same [0, 4] a a' ∧ w' = w ∧ G a' 1 = v1 ∧ G a' 5 = .int .u32 (iw s.a) ∧ G a' 6 = .int .u32 (iw s.b) ∧ G a' 7 = .int .u32 (iw s.c) ∧ G a' 8 = .int .u32 (iw s.d) ∧
  G a' 9 = .int .u32 (iw s.e) ∧ G a' 10 = .int .u32 (iw s.f) ∧ G a' 11 = .int .u32 (iw s.g) ∧ G a' 12 = .int .u32 (iw s.h)
set_option maxHeartbeats 1000000 in
set_option maxRecDepth 100000 in
theorem boEnd (a : Act) (w : World) (h : Frm 283 a) (Q : Exit → Act → World → Prop) (pb po len cap : Nat) (s r : S8) (hlen : 64 ≤ len) (hcap : len ≤ cap) (hmax : cap ≤ 9223372036854775807)
    (g1 : G a 1 = .slice (some ⟨pb, po, none⟩) len cap)
    (g5 : G a 5 = .int .u32 (iw s.a)) (g6 : G a 6 = .int .u32 (iw s.b)) (g7 : G a 7 = .int .u32 (iw s.c)) (g8 : G a 8 = .int .u32 (iw s.d))
    (g9 : G a 9 = .int .u32 (iw s.e)) (g10 : G a 10 = .int .u32 (iw s.f)) (g11 : G a 11 = .int .u32 (iw s.g)) (g12 : G a 12 = .int .u32 (iw s.h))
    (g13 : G a 13 = .int .u32 (iw r.a)) (g14 : G a 14 = .int .u32 (iw r.b)) (g15 : G a 15 = .int .u32 (iw r.c)) (g16 : G a 16 = .int .u32 (iw r.d))
    (g17 : G a 17 = .int .u32 (iw r.e)) (g18 : G a 18 = .int .u32 (iw r.f)) (g19 : G a 19 = .int .u32 (iw r.g)) (g20 : G a 20 = .int .u32 (iw r.h))
    (hQ : ∀ a' w', PE a w (.slice (some ⟨pb, if cap = 64 then po else po + 64, none⟩) (len - 64) (cap - 64)) (s.add r) a' w' → Q .normal a' w') :
    (part (bodyOf Try.f112) [true, true, false, false, false, true, false, true, true]).wp Try.prog Q a w := by
  have e9 := Ar.wrap_add32
  conv => arg 2; whnf
  rw [lit283 a h]
  simp only [g1, g5, g6, g7, g8, g9, g10, g11, g12, g13, g14, g15, g16, g17, g18, g19, g20]
  clear h g1 g5 g6 g7 g8 g9 g10 g11 g12 g13 g14 g15 g16 g17 g18 g19 g20
  by_cases hc : cap = 64
  · subst hc
    obtain rfl : len = 64 := by omega
    go_wp2
    exact ⟨⟨rfl, rfl⟩, ⟨rfl, rfl, trivial⟩, rfl, rfl, rfl, rfl, rfl, rfl, rfl, rfl, rfl, rfl⟩
  · rw [if_neg hc] at hQ
    have h64 : 64 < cap := by omega
    clear hc
    go_wp2
    exact ⟨⟨rfl, rfl⟩, ⟨rfl, rfl, trivial⟩, rfl, rfl, rfl, rfl, rfl, rfl, rfl, rfl, rfl, rfl⟩
theorem boBody_eq : part (bodyOf Try.f112) [true, true, false, false] = .loop (.seq (part (bodyOf Try.f112) [true, true, false, false, false, false]) (.block 1 (.seq (part (bodyOf Try.f112) [true, true, false, false, false, true, false, false])
    (.seq (.seq (part (bodyOf Try.f112) [true, true, false, false, false, true, false, true, false, false]) (part (bodyOf Try.f112) [true, true, false, false, false, true, false, true, false, true])) (part (bodyOf Try.f112) [true, true, false, false, false, true, false, true, true]))))) := by kernel_rfl
/-- The outer loop's own: after n blocks. -/
structure OI (a0 : Act) (w0 : World) (kt : List UInt32) (Wb : Nat) (s : S8) (l : By) (n : Nat) (a : Act) (w : World) : Prop where
  frm : Frm 283 a
  same : Same [0, 4] a0 a
  le : 64 * n ≤ l.length
  rd : Rd w (G a 1) (l.drop (64 * n))
  off : lenOf (G a 1) ≠ 0 → Off [Wb] (G a 1)
  g5 : G a 5 = .int .u32 (iw (blocksN kt n s l).a)
  g6 : G a 6 = .int .u32 (iw (blocksN kt n s l).b)
  g7 : G a 7 = .int .u32 (iw (blocksN kt n s l).c)
  g8 : G a 8 = .int .u32 (iw (blocksN kt n s l).d)
  g9 : G a 9 = .int .u32 (iw (blocksN kt n s l).e)
  g10 : G a 10 = .int .u32 (iw (blocksN kt n s l).f)
  g11 : G a 11 = .int .u32 (iw (blocksN kt n s l).g)
  g12 : G a 12 = .int .u32 (iw (blocksN kt n s l).h)
  ws : ∃ ws, WIs w Wb ws
  tch : Tch [Wb] w0 w
theorem blocksN_succ (kt : List UInt32) (n : Nat) (s : S8) (l : By) : blocksN kt (n + 1) s l = comp kt (blocksN kt n s l) ((l.drop (64 * n)).take 64) := by
  rw [blocksN_add]; rfl
theorem sched_take (l : By) : ∀ n, n ≤ 64 → sched (l.take 64) n = sched l n := by
  intro n
  induction n with
  | zero => intro _; rfl
  | succ n ih =>
    intro hn
    have g : ∀ j, j < 64 → (l.take 64).getD j 0 = l.getD j 0 := fun j hj => by simp [List.getD_eq_getElem?_getD, hj]
    have e : wNext (sched l n) (l.take 64) = wNext (sched l n) l := by
      unfold wNext
      rw [sched_length]
      by_cases h16 : n < 16
      · rw [if_pos h16, if_pos h16, g _ (by omega), g _ (by omega), g _ (by omega), g _ (by omega)]
      · rw [if_neg h16, if_neg h16]
    simp only [sched, ih (by omega), e]
theorem rounds_take (kt : List UInt32) (s : S8) (l : By) : ∀ n, n ≤ 64 → rounds kt (l.take 64) s n = rounds kt l s n := by
  intro n
  induction n with
  | zero => intro _; rfl
  | succ n ih =>
    intro hn
    have e := sched_take l (n + 1) hn
    have e1 := sched_get (l.take 64) (n + 1) n (by omega)
    have e2 := sched_get l (n + 1) n (by omega)
    rw [e] at e1
    have e3 : W (l.take 64) n = W l n := e1.symm.trans e2
    simp only [rounds, ih (by omega), e3]
theorem off_of {b : Nat} {a : Addr} {len cap : Nat} (h : Off [b] (.slice (some a) len cap)) : a.block ≠ b := by
  have := h a.block rfl
  simpa using this
theorem bo (a : Act) (w : World) (Q : Exit → Act → World → Prop) (kt : List UInt32) (Wb : Nat) (s : S8) (l : By) (hK : KIs w kt) (hWb : 0 < Wb) (g4 : G a 4 = .pointer (some ⟨Wb, 0, none⟩)) (h : OI a w kt Wb s l 0 a w)
    (hQ : ∀ a' w', OI a w kt Wb s l (l.length / 64) a' w' → Q (.exit 0) a' w') :
    (part (bodyOf Try.f112) [true, true, false, false]).wp Try.prog Q a w := by
  rw [boBody_eq]
  refine wp_loop (fun a' w' => ∃ n, OI a w kt Wb s l n a' w') (fun a' _ => lenOf (G a' 1)) ⟨0, h⟩ ?_
  rintro a1 w1 ⟨n, I⟩
  obtain ⟨p, cap, hv, hcap, hmax, hrd⟩ := I.rd
  unfold maxLen at hmax
  have hll : (l.drop (64 * n)).length = l.length - 64 * n := by simp
  by_cases h64 : 64 ≤ (l.drop (64 * n)).length
  · obtain ⟨pb, po, rfl, hcell⟩ : ∃ pb po, p = some ⟨pb, po, none⟩ ∧ ∀ i x, (l.drop (64 * n))[i]? = some x → w1.cell? ⟨pb, po + i, none⟩ = some (vb x) := by
      rcases hrd with h | h
      · rw [h] at h64; simp at h64
      · exact h
    have hpb : pb ≠ Wb := by have := I.off (by rw [hv]; simp only [lenOf]; omega); rw [hv] at this; exact off_of this
    refine wp_seq ?_
    refine boTestYes a1 w1 I.frm _ _ _ _ h64 hv ?_
    rintro a2 w2 ⟨f2, s2, rfl⟩
    refine wp_block (wp_seq ?_)
    refine boLetters a2 w2 f2 _ ?_
    rintro a3 w3 ⟨f3, s3, rfl, q13, q14, q15, q16, q17, q18, q19, q20⟩
    refine wp_seq (wp_seq ?_)
    refine boZero a3 w3 f3 _ ?_
    rintro a4 w4 ⟨f4, s4, rfl, q80⟩
    have k5 : ∀ j, boKeep.contains j = true → G a4 j = G a1 j := fun j hj => by
      have h1 := s2.get j hj
      have h2 := s3.get j hj
      have h3 : G a4 j = G a3 j := s4.get j (by simp only [boKeep, List.contains_eq_mem, List.mem_cons, List.not_mem_nil, or_false, decide_eq_true_eq] at hj ⊢; omega)
      rw [h3, h2, h1]
    have l13 : ∀ j i, boKeep.contains i = true → G a3 j = G a2 i → ([0, 1, 4, 5, 6, 7, 8, 9, 10, 11, 12, 13, 14, 15, 16, 17, 18, 19, 20] : List Nat).contains j = true → G a4 j = G a1 i := fun j i hi e hj => by
      rw [s4.get j hj, e, s2.get i hi]
    refine bgInner a4 w4 f4 _ kt pb po _ cap Wb (blocksN kt n s l) (l.drop (64 * n)) h64 (hK.tch I.tch (by simp; omega)) hWb hpb ((k5 1 rfl).trans hv) ((k5 4 rfl).trans ((I.same.get 4 rfl).trans g4)) q80
      ((l13 13 5 rfl q13 rfl).trans I.g5) ((l13 14 6 rfl q14 rfl).trans I.g6) ((l13 15 7 rfl q15 rfl).trans I.g7) ((l13 16 8 rfl q16 rfl).trans I.g8)
      ((l13 17 9 rfl q17 rfl).trans I.g9) ((l13 18 10 rfl q18 rfl).trans I.g10) ((l13 19 11 rfl q19 rfl).trans I.g11) ((l13 20 12 rfl q20 rfl).trans I.g12) ?_ I.ws ?_
    · intro j hj
      refine hcell j _ ?_
      rw [List.getElem?_eq_getElem (by omega), List.getD_eq_getElem?_getD, List.getElem?_eq_getElem (by omega)]; rfl
    · intro a5 w5 J
      have m5 : ∀ j, boKeep.contains j = true → G a5 j = G a1 j := fun j hj => by rw [J.same.get j hj, k5 j hj]
      refine boEnd a5 w5 J.frm _ pb po _ cap _ (rounds kt (l.drop (64 * n)) (blocksN kt n s l) 64) h64 hcap hmax ((m5 1 rfl).trans hv) ((m5 5 rfl).trans I.g5) ((m5 6 rfl).trans I.g6) ((m5 7 rfl).trans I.g7) ((m5 8 rfl).trans I.g8)
        ((m5 9 rfl).trans I.g9) ((m5 10 rfl).trans I.g10) ((m5 11 rfl).trans I.g11) ((m5 12 rfl).trans I.g12) J.g13 J.g14 J.g15 J.g16 J.g17 J.g18 J.g19 J.g20 ?_
      rintro a6 w6 ⟨f6, s6, rfl, z1, z5, z6, z7, z8, z9, z10, z11, z12⟩
      have hnext : blocksN kt (n + 1) s l = (blocksN kt n s l).add (rounds kt (l.drop (64 * n)) (blocksN kt n s l) 64) := by
        rw [blocksN_succ, comp, rounds_take _ _ _ 64 (Nat.le_refl _)]
      rw [← hnext] at z5 z6 z7 z8 z9 z10 z11 z12
      have hdd : l.drop (64 * (n + 1)) = (l.drop (64 * n)).drop 64 := by rw [List.drop_drop]; congr 1
      simp only [Exit.then, Exit.inBlock]
      refine ⟨⟨n + 1, f6, ?_, by omega, ?_, ?_, z5, z6, z7, z8, z9, z10, z11, z12, ?_, ?_⟩, ?_⟩
      · have e1 := I.same
        have e2 := m5 0 rfl
        have e3 := m5 4 rfl
        simp only [Same] at e1 s6 ⊢
        simp only [s6, e2, e3, e1, and_self]
      · rw [z1, hdd]
        refine ⟨some ⟨pb, if cap = 64 then po else po + 64, none⟩, cap - 64, by rw [show ((l.drop (64 * n)).drop 64).length = (l.drop (64 * n)).length - 64 from List.length_drop], by rw [List.length_drop]; omega, by unfold maxLen; omega, ?_⟩
        by_cases hc : cap = 64
        · left
          exact List.drop_of_length_le (by omega)
        · right
          rw [if_neg hc]
          refine ⟨pb, po + 64, rfl, fun i x hx => ?_⟩
          rw [List.getElem?_drop] at hx
          have := J.tch.cell (hcell _ _ hx) (by simpa using hpb)
          rwa [show po + (64 + i) = po + 64 + i by omega] at this
      · intro _ b hb
        rw [z1] at hb
        simp only [Value.ownBlock, Option.some.injEq] at hb
        subst hb
        simpa using hpb
      · obtain ⟨ws, hws, _⟩ := J.ws
        exact ⟨ws, hws⟩
      · exact I.tch.trans J.tch
      · rw [z1, hv]; simp only [lenOf]; omega
  · refine wp_seq ?_
    refine boTestNo a1 w1 I.frm _ _ _ _ (by omega) hv ?_
    rintro a2 w2 ⟨f2, s2, rfl⟩
    have hn : n = l.length / 64 := by have := I.le; omega
    subst hn
    simp only [Exit.then]
    have k := fun j (hj : boKeep.contains j = true) => s2.get j hj
    have e1 := I.same
    refine hQ _ _ ⟨f2, ?_, I.le, ?_, ?_, ?_, ?_, ?_, ?_, ?_, ?_, ?_, ?_, I.ws, I.tch⟩
    · simp only [Same] at e1 ⊢
      simp only [k 0 rfl, k 4 rfl, e1, and_self]
    · rw [k 1 rfl]; exact I.rd
    · rw [k 1 rfl]; exact I.off
    · rw [k 5 rfl]; exact I.g5
    · rw [k 6 rfl]; exact I.g6
    · rw [k 7 rfl]; exact I.g7
    · rw [k 8 rfl]; exact I.g8
    · rw [k 9 rfl]; exact I.g9
    · rw [k 10 rfl]; exact I.g10
    · rw [k 11 rfl]; exact I.g11
    · rw [k 12 rfl]; exact I.g12
end Go.Proofs.Ytgomodhhomekpaa
