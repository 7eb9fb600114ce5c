/-
  The hash, HMAC, HKDF and PBKDF2 as plain functions on lists of bytes. No program in sight.
-/
namespace Go.Proofs.Ytgomodhhomekpaa
namespace Pu

abbrev By := List UInt8

/-! ### SHA-256 -/
def rotr (x : UInt32) (n : UInt32) : UInt32 := (x >>> n) ||| (x <<< (32 - n))

structure S8 where
  a : UInt32
  b : UInt32
  c : UInt32
  d : UInt32
  e : UInt32
  f : UInt32
  g : UInt32
  h : UInt32

def kc : List UInt32 := [
  0x428a2f98, 0x71374491, 0xb5c0fbcf, 0xe9b5dba5, 0x3956c25b, 0x59f111f1, 0x923f82a4, 0xab1c5ed5,
  0xd807aa98, 0x12835b01, 0x243185be, 0x550c7dc3, 0x72be5d74, 0x80deb1fe, 0x9bdc06a7, 0xc19bf174,
  0xe49b69c1, 0xefbe4786, 0x0fc19dc6, 0x240ca1cc, 0x2de92c6f, 0x4a7484aa, 0x5cb0a9dc, 0x76f988da,
  0x983e5152, 0xa831c66d, 0xb00327c8, 0xbf597fc7, 0xc6e00bf3, 0xd5a79147, 0x06ca6351, 0x14292967,
  0x27b70a85, 0x2e1b2138, 0x4d2c6dfc, 0x53380d13, 0x650a7354, 0x766a0abb, 0x81c2c92e, 0x92722c85,
  0xa2bfe8a1, 0xa81a664b, 0xc24b8b70, 0xc76c51a3, 0xd192e819, 0xd6990624, 0xf40e3585, 0x106aa070,
  0x19a4c116, 0x1e376c08, 0x2748774c, 0x34b0bcb5, 0x391c0cb3, 0x4ed8aa4a, 0x5b9cca4f, 0x682e6ff3,
  0x748f82ee, 0x78a5636f, 0x84c87814, 0x8cc70208, 0x90befffa, 0xa4506ceb, 0xbef9a3f7, 0xc67178f2]


def word (a b c d : UInt8) : UInt32 := a.toUInt32 <<< 24 ||| b.toUInt32 <<< 16 ||| c.toUInt32 <<< 8 ||| d.toUInt32

/-- The next word of the schedule behind those of ws. -/
def wNext (ws : List UInt32) (blk : By) : UInt32 :=
  if ws.length < 16 then word (blk.getD (4 * ws.length) 0) (blk.getD (4 * ws.length + 1) 0) (blk.getD (4 * ws.length + 2) 0) (blk.getD (4 * ws.length + 3) 0)
  else
    (rotr (ws.getD (ws.length - 2) 0) 17 ^^^ rotr (ws.getD (ws.length - 2) 0) 19 ^^^ ws.getD (ws.length - 2) 0 >>> 10) + ws.getD (ws.length - 7) 0
      + (rotr (ws.getD (ws.length - 15) 0) 7 ^^^ rotr (ws.getD (ws.length - 15) 0) 18 ^^^ ws.getD (ws.length - 15) 0 >>> 3) + ws.getD (ws.length - 16) 0

def sched (blk : By) : Nat → List UInt32
  | 0 => []
  | n + 1 => sched blk n ++ [wNext (sched blk n) blk]

def W (blk : By) (i : Nat) : UInt32 := wNext (sched blk i) blk

theorem sched_length (blk : By) (n : Nat) : (sched blk n).length = n := by
  induction n with
  | zero => rfl
  | succ n ih => simp [sched, ih]

theorem sched_get (blk : By) (n i : Nat) (h : i < n) : (sched blk n).getD i 0 = W blk i := by
  induction n with
  | zero => omega
  | succ n ih =>
    by_cases hi : i < n
    · simp only [sched, List.getD_eq_getElem?_getD] at ih ⊢
      rw [List.getElem?_append_left (by rw [sched_length]; exact hi)]
      exact ih hi
    · have : i = n := by omega
      subst this
      simp [sched, List.getD_eq_getElem?_getD, sched_length, W]

def rnd (s : S8) (k w : UInt32) : S8 :=
  let t1 := s.h + (rotr s.e 6 ^^^ rotr s.e 11 ^^^ rotr s.e 25) + ((s.e &&& s.f) ^^^ (~~~s.e &&& s.g)) + k + w
  let t2 := (rotr s.a 2 ^^^ rotr s.a 13 ^^^ rotr s.a 22) + ((s.a &&& s.b) ^^^ (s.a &&& s.c) ^^^ (s.b &&& s.c))
  ⟨t1 + t2, s.a, s.b, s.c, s.d + t1, s.e, s.f, s.g⟩

/-- n rounds over a block, with the constants kt. -/
def rounds (kt : List UInt32) (blk : By) (h : S8) : Nat → S8
  | 0 => h
  | n + 1 => rnd (rounds kt blk h n) (kt.getD n 0) (W blk n)

def S8.add (x y : S8) : S8 := ⟨x.a + y.a, x.b + y.b, x.c + y.c, x.d + y.d, x.e + y.e, x.f + y.f, x.g + y.g, x.h + y.h⟩

def comp (kt : List UInt32) (h : S8) (blk : By) : S8 := h.add (rounds kt blk h 64)

def blocksN (kt : List UInt32) : Nat → S8 → By → S8
  | 0, h, _ => h
  | n + 1, h, l => blocksN kt n (comp kt h (l.take 64)) (l.drop 64)

/-- All whole blocks of l taken in. -/
def blocks (kt : List UInt32) (h : S8) (l : By) : S8 := blocksN kt (l.length / 64) h l

/-- What is left behind the whole blocks. -/
def rest (l : By) : By := l.drop (64 * (l.length / 64))

def init : S8 := ⟨0x6A09E667, 0xBB67AE85, 0x3C6EF372, 0xA54FF53A, 0x510E527F, 0x9B05688C, 0x1F83D9AB, 0x5BE0CD19⟩

def be32 (x : UInt32) : By := [(x >>> 24).toUInt8, (x >>> 16).toUInt8, (x >>> 8).toUInt8, x.toUInt8]
def be64 (x : UInt64) : By := [(x >>> 56).toUInt8, (x >>> 48).toUInt8, (x >>> 40).toUInt8, (x >>> 32).toUInt8, (x >>> 24).toUInt8, (x >>> 16).toUInt8, (x >>> 8).toUInt8, x.toUInt8]
def S8.bytes (s : S8) : By := be32 s.a ++ be32 s.b ++ be32 s.c ++ be32 s.d ++ be32 s.e ++ be32 s.f ++ be32 s.g ++ be32 s.h

def padN (n : Nat) : Nat := if n % 64 < 56 then 56 - n % 64 else 64 + 56 - n % 64
/-- The padding of n bytes. -/
def padOf (n : Nat) : By := (0x80 :: List.replicate (padN n - 1) (0 : UInt8)) ++ be64 (UInt64.ofNat n <<< 3)

def sha (kt : List UInt32) (l : By) : By := (blocks kt init (l ++ padOf l.length)).bytes

theorem blocksN_add (kt : List UInt32) (m n : Nat) : ∀ (h : S8) (l : By), blocksN kt (m + n) h l = blocksN kt n (blocksN kt m h l) (l.drop (64 * m)) := by
  induction m with
  | zero => intro h l; simp [blocksN]
  | succ m ih =>
    intro h l
    rw [show m + 1 + n = (m + n) + 1 from by omega]
    simp only [blocksN]
    rw [ih, List.drop_drop]
    congr 2
    omega

theorem blocksN_take (kt : List UInt32) (n : Nat) : ∀ (h : S8) (l r : By), 64 * n ≤ l.length → blocksN kt n h (l ++ r) = blocksN kt n h l := by
  induction n with
  | zero => intro h l r _; rfl
  | succ n ih =>
    intro h l r hl
    simp only [blocksN]
    rw [List.take_append_of_le_length (by omega), List.drop_append_of_le_length (by omega)]
    exact ih _ _ _ (by simp; omega)

/-- Whole blocks first, the rest behind. -/
theorem blocks_append (kt : List UInt32) (h : S8) (l r : By) (hl : l.length % 64 = 0) : blocks kt h (l ++ r) = blocks kt (blocks kt h l) r := by
  unfold blocks
  have e : (l ++ r).length / 64 = l.length / 64 + r.length / 64 := by rw [List.length_append]; omega
  rw [e, blocksN_add, blocksN_take _ _ _ _ _ (by omega), List.drop_append_of_le_length (by omega), List.drop_of_length_le (by omega), List.nil_append]

theorem rest_length (l : By) : (rest l).length = l.length % 64 := by
  simp [rest]; omega

theorem take_rest (l : By) : l.take (64 * (l.length / 64)) ++ rest l = l := List.take_append_drop _ _

theorem blocks_short (kt : List UInt32) (h : S8) (l : By) (hl : l.length < 64) : blocks kt h l = h := by
  unfold blocks; rw [show l.length / 64 = 0 by omega]; rfl

theorem blocks_take (kt : List UInt32) (h : S8) (l : By) : blocks kt h (l.take (64 * (l.length / 64))) = blocks kt h l := by
  have e := blocks_append kt h (l.take (64 * (l.length / 64))) (rest l) (by rw [List.length_take]; omega)
  rw [take_rest] at e
  rw [e, blocks_short _ _ (rest l) (by rw [rest_length]; omega)]

/-- Bytes behind others: the rest of those first. -/
theorem blocks_more (kt : List UInt32) (h : S8) (l r : By) : blocks kt h (l ++ r) = blocks kt (blocks kt h l) (rest l ++ r) := by
  have e := blocks_append kt h (l.take (64 * (l.length / 64))) (rest l ++ r) (by rw [List.length_take]; omega)
  rw [← List.append_assoc, take_rest] at e
  rw [e, blocks_take]

theorem rest_append (l r : By) (hl : l.length % 64 = 0) : rest (l ++ r) = rest r := by
  unfold rest
  have e : 64 * ((l ++ r).length / 64) = l.length + 64 * (r.length / 64) := by rw [List.length_append]; omega
  rw [e, List.drop_append]
  simp
theorem rest_more (l r : By) : rest (l ++ r) = rest (rest l ++ r) := by
  have e := rest_append (l.take (64 * (l.length / 64))) (rest l ++ r) (by rw [List.length_take]; omega)
  rw [← List.append_assoc, take_rest] at e
  exact e
theorem rest_short (l : By) (hl : l.length < 64) : rest l = l := by
  unfold rest; rw [show l.length / 64 = 0 by omega]; rfl

theorem blocks_one (kt : List UInt32) (h : S8) (l : By) (hl : l.length = 64) : blocks kt h l = comp kt h l := by
  unfold blocks; rw [hl]; simp [blocksN, List.take_of_length_le (Nat.le_of_eq hl)]

theorem padOf_length (n : Nat) : (n + (padOf n).length) % 64 = 0 := by
  simp [padOf, be64, padN]; split <;> omega

/-! ### The hash that is handed in -/
def ownInit (size : Nat) : By := (List.range size).map UInt8.ofNat
def ownStep (size : Nat) (st : By) (n : Nat) (b : UInt8) : By :=
  let v := 31 * st.getD (n % size) 0 + b + UInt8.ofNat n
  let st' := st.set (n % size) v
  st'.set ((n + 1) % size) (st'.getD ((n + 1) % size) 0 ^^^ st'.getD (n % size) 0)
def ownFrom (size : Nat) : By → Nat → By → By
  | st, _, [] => st
  | st, n, b :: l => ownFrom size (ownStep size st n b) (n + 1) l
def ownState (size : Nat) (l : By) : By := ownFrom size (ownInit size) 0 l
def own (size : Nat) (l : By) : By := (ownState size l).map (· + UInt8.ofNat l.length)

theorem ownFrom_append (size : Nat) (l r : By) : ∀ (st : By) (n : Nat), ownFrom size st n (l ++ r) = ownFrom size (ownFrom size st n l) (n + l.length) r := by
  induction l with
  | nil => intro st n; simp [ownFrom]
  | cons b l ih =>
    intro st n
    simp only [List.cons_append, ownFrom, ih, List.length_cons]
    congr 1; omega
theorem ownState_append (size : Nat) (l r : By) : ownState size (l ++ r) = ownFrom size (ownState size l) l.length r := by
  simp [ownState, ownFrom_append]
theorem ownState_snoc (size : Nat) (l : By) (b : UInt8) : ownState size (l ++ [b]) = ownStep size (ownState size l) l.length b := by
  rw [ownState_append]; rfl
theorem ownStep_length (size : Nat) (st : By) (n : Nat) (b : UInt8) : (ownStep size st n b).length = st.length := by simp [ownStep]
theorem ownFrom_length (size : Nat) (l : By) : ∀ (st : By) (n : Nat), (ownFrom size st n l).length = st.length := by
  induction l with
  | nil => intro st n; rfl
  | cons b l ih => intro st n; simp [ownFrom, ih, ownStep_length]
theorem ownState_length (size : Nat) (l : By) : (ownState size l).length = size := by simp [ownState, ownFrom_length, ownInit]

/-! ### A hash -/
inductive HK where
  | sha (kt : List UInt32)
  | own (size block : Nat)
def HK.size : HK → Nat
  | .sha _ => 32
  | .own s _ => s
def HK.block : HK → Nat
  | .sha _ => 64
  | .own _ b => b
def HK.hash : HK → By → By
  | .sha kt => Pu.sha kt
  | .own s _ => Pu.own s
def HK.ok : HK → Prop
  | .sha _ => True
  | .own s b => 1 ≤ s ∧ s ≤ 16 ∧ s ≤ b ∧ b ≤ 32
/-- The hash that the three numbers name. -/
def kindOf (kt : List UInt32) (k s b : Int) : HK := if k = 1 then .sha kt else if s < 1 ∨ 16 < s ∨ b < s ∨ 32 < b then .own 1 16 else .own s.toNat b.toNat

theorem S8.bytes_length (s : S8) : s.bytes.length = 32 := rfl
theorem HK.hash_length (k : HK) (l : By) : (k.hash l).length = k.size := by
  cases k with
  | sha kt => exact S8.bytes_length _
  | own s b => simp [HK.hash, Pu.own, HK.size, ownState_length]
theorem kindOf_ok (kt : List UInt32) (k s b : Int) : (kindOf kt k s b).ok := by
  unfold kindOf
  split
  · trivial
  · split
    · simp [HK.ok]
    · simp only [HK.ok]; omega
theorem HK.ok.size_pos {k : HK} (h : k.ok) : 1 ≤ k.size := by cases k <;> simp_all [HK.ok, HK.size]
theorem HK.ok.size_le {k : HK} (h : k.ok) : k.size ≤ 32 := by cases k <;> simp_all [HK.ok, HK.size]; omega
theorem HK.ok.block_le {k : HK} (h : k.ok) : k.block ≤ 64 := by cases k <;> simp_all [HK.ok, HK.block]; omega
theorem HK.ok.size_le_block {k : HK} (h : k.ok) : k.size ≤ k.block := by cases k <;> simp_all [HK.ok, HK.block, HK.size]

/-! ### HMAC, HKDF, PBKDF2 -/
def keyOf (k : HK) (key : By) : By := if k.block < key.length then k.hash key else key
def padKey (k : HK) (key : By) : By := keyOf k key ++ List.replicate (k.block - (keyOf k key).length) 0
def ipad (k : HK) (key : By) : By := (padKey k key).map (· ^^^ 0x36)
def opad (k : HK) (key : By) : By := (padKey k key).map (· ^^^ 0x5c)
def mac (k : HK) (key data : By) : By := k.hash (opad k key ++ k.hash (ipad k key ++ data))

theorem mac_length (k : HK) (key data : By) : (mac k key data).length = k.size := k.hash_length _
theorem keyOf_length {k : HK} (h : k.ok) (key : By) : (keyOf k key).length ≤ k.block := by
  unfold keyOf; split
  · rw [k.hash_length]; exact h.size_le_block
  · omega
theorem padKey_length {k : HK} (h : k.ok) (key : By) : (padKey k key).length = k.block := by
  have := keyOf_length h key
  simp [padKey]; omega
theorem ipad_length {k : HK} (h : k.ok) (key : By) : (ipad k key).length = k.block := by simp [ipad, padKey_length h]
theorem opad_length {k : HK} (h : k.ok) (key : By) : (opad k key).length = k.block := by simp [opad, padKey_length h]

def extract (k : HK) (secret salt : By) : By := mac k (if salt = [] then List.replicate k.size 0 else salt) secret

def expT (k : HK) (prk info : By) : Nat → By
  | 0 => []
  | n + 1 => mac k prk (expT k prk info n ++ info ++ [UInt8.ofNat (n + 1)])
def expAll (k : HK) (prk info : By) : Nat → By
  | 0 => []
  | n + 1 => expAll k prk info n ++ expT k prk info (n + 1)
theorem expT_length (k : HK) (prk info : By) (n : Nat) : (expT k prk info (n + 1)).length = k.size := mac_length _ _ _
theorem expAll_length (k : HK) (prk info : By) (n : Nat) : (expAll k prk info n).length = n * k.size := by
  induction n with
  | zero => simp [expAll]
  | succ n ih => simp [expAll, ih, expT_length, Nat.add_mul]
def expand (k : HK) (prk info : By) (n : Nat) : By := (expAll k prk info ((n + k.size - 1) / k.size)).take n

def be4 (n : Nat) : By := [UInt8.ofNat (n / 16777216), UInt8.ofNat (n / 65536), UInt8.ofNat (n / 256), UInt8.ofNat n]
def xorBy (a b : By) : By := List.zipWith (· ^^^ ·) a b
def derU (k : HK) (pw salt : By) (i : Nat) : Nat → By
  | 0 => mac k pw (salt ++ be4 i)
  | n + 1 => mac k pw (derU k pw salt i n)
def derF (k : HK) (pw salt : By) (i : Nat) : Nat → By
  | 0 => derU k pw salt i 0
  | n + 1 => xorBy (derF k pw salt i n) (derU k pw salt i (n + 1))
theorem derU_length (k : HK) (pw salt : By) (i n : Nat) : (derU k pw salt i n).length = k.size := by cases n <;> exact mac_length _ _ _
theorem derF_length (k : HK) (pw salt : By) (i n : Nat) : (derF k pw salt i n).length = k.size := by
  induction n with
  | zero => exact derU_length _ _ _ _ _
  | succ n ih => simp [derF, xorBy, ih, derU_length]
/-- The blocks 1 .. n, each of 1 + m rounds. -/
def derAll (k : HK) (pw salt : By) (m : Nat) : Nat → By
  | 0 => []
  | n + 1 => derAll k pw salt m n ++ derF k pw salt (n + 1) m
theorem derAll_length (k : HK) (pw salt : By) (m n : Nat) : (derAll k pw salt m n).length = n * k.size := by
  induction n with
  | zero => simp [derAll]
  | succ n ih => simp [derAll, ih, derF_length, Nat.add_mul]
/-- PBKDF2 of 1 + m rounds. -/
def derive (k : HK) (pw salt : By) (m n : Nat) : By := (derAll k pw salt m ((n + k.size - 1) / k.size)).take n

end Pu
end Go.Proofs.Ytgomodhhomekpaa
