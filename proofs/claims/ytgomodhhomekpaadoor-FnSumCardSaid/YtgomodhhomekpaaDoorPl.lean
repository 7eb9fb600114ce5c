/-
  Plain laws of HMAC, HKDF and PBKDF2 on lists of bytes. No program in sight.
-/
import Derived.Test.YtgomodhhomekpaaDoorM4
namespace Go.Proofs.YtgomodhhomekpaaDoor
namespace Pu
theorem mac_longKey' {hk : HK} (hok : hk.ok) (key data : By) (h : hk.block < key.length) : mac hk (hk.hash key) data = mac hk key data := by
  have e1 : keyOf hk key = hk.hash key := by unfold keyOf; rw [if_pos h]
  have e2 : keyOf hk (hk.hash key) = hk.hash key := by
    unfold keyOf
    rw [if_neg]
    rw [hk.hash_length]; have := hok.size_le_block; omega
  unfold mac opad ipad padKey
  rw [e1, e2]
theorem padKey_noughts (hk : HK) (key : By) (m : Nat) (h : key.length + m ≤ hk.block) : padKey hk (key ++ List.replicate m 0) = padKey hk key := by
  have e1 : keyOf hk key = key := by unfold keyOf; rw [if_neg (by omega)]
  have e2 : keyOf hk (key ++ List.replicate m 0) = key ++ List.replicate m 0 := by
    unfold keyOf; rw [if_neg (by simp; omega)]
  unfold padKey
  rw [e1, e2, List.append_assoc, List.replicate_append_replicate, List.length_append, List.length_replicate]
  congr 2; omega
/-- Noughts behind a key. -/
theorem mac_noughts (hk : HK) (key data : By) (m : Nat) (h : key.length + m ≤ hk.block) : mac hk (key ++ List.replicate m 0) data = mac hk key data := by
  unfold mac opad ipad
  rw [padKey_noughts hk key m h]
theorem extract_isMac {hk : HK} (hok : hk.ok) (secret salt : By) : extract hk secret salt = mac hk salt secret := by
  unfold extract
  split
  · next h =>
    subst h
    have := mac_noughts hk [] secret hk.size (by have := hok.size_le_block; simpa using this)
    simpa using this
  · rfl
theorem extract_noSalt {hk : HK} (hok : hk.ok) (secret : By) : extract hk secret [] = extract hk secret (List.replicate hk.size 0) := by
  rw [extract_isMac hok, extract_isMac hok]
  have := mac_noughts hk [] secret hk.size (by have := hok.size_le_block; simpa using this)
  simpa using this.symm
theorem expAll_take (hk : HK) (prk info : By) (a b : Nat) (h : a ≤ b) : (expAll hk prk info b).take (a * hk.size) = expAll hk prk info a := by
  induction b with
  | zero => obtain rfl : a = 0 := by omega
            simp [expAll]
  | succ b ih =>
    by_cases hb : a ≤ b
    · have hm : a * hk.size ≤ b * hk.size := Nat.mul_le_mul_right _ hb
      simp only [expAll]
      rw [List.take_append_of_le_length (by rw [expAll_length]; exact hm)]
      exact ih hb
    · obtain rfl : a = b + 1 := by omega
      rw [List.take_of_length_le (Nat.le_of_eq (expAll_length _ _ _ _))]
theorem up_le (x s : Nat) (hs : 1 ≤ s) : x ≤ (x + s - 1) / s * s := by
  have h := Nat.div_add_mod (x + s - 1) s
  have h2 := Nat.mod_lt (x + s - 1) (show 0 < s by omega)
  rw [Nat.mul_comm] at h
  omega
theorem up_mono (x y s : Nat) (h : x ≤ y) : (x + s - 1) / s ≤ (y + s - 1) / s := Nat.div_le_div_right (by omega)
theorem up_mul (i s : Nat) (hs : 1 ≤ s) : (i * s + s - 1) / s = i := by
  rw [Nat.div_eq_iff (by omega)]
  have : (i + 1) * s = i * s + s := Nat.succ_mul i s
  omega
theorem expand_length {hk : HK} (hok : hk.ok) (prk info : By) (n : Nat) : (expand hk prk info n).length = n := by
  unfold expand
  rw [List.length_take, expAll_length]
  have := up_le n hk.size hok.size_pos
  omega
theorem expand_prefix {hk : HK} (hok : hk.ok) (prk info : By) (x y : Nat) (h : x ≤ y) : (expand hk prk info y).take x = expand hk prk info x := by
  unfold expand
  rw [List.take_take, Nat.min_eq_left h]
  rw [← expAll_take hk prk info _ _ (up_mono x y hk.size h), List.take_take]
  congr 1
  have := up_le x hk.size hok.size_pos
  omega
theorem expand_mul {hk : HK} (hok : hk.ok) (prk info : By) (i : Nat) : expand hk prk info (i * hk.size) = expAll hk prk info i := by
  unfold expand
  rw [up_mul i hk.size hok.size_pos, List.take_of_length_le (Nat.le_of_eq (expAll_length _ _ _ _))]
theorem expAll_last (hk : HK) (prk info : By) (i : Nat) : (expAll hk prk info (i + 1)).drop (i * hk.size) = expT hk prk info (i + 1) := by
  simp only [expAll]
  rw [List.drop_append_of_le_length (by rw [expAll_length]; exact Nat.le_refl _), List.drop_of_length_le (by rw [expAll_length]; exact Nat.le_refl _), List.nil_append]
/-- The last block but one. -/
theorem expAll_ahead (hk : HK) (prk info : By) (i : Nat) : ((expAll hk prk info (i + 2)).take ((i + 1) * hk.size)).drop (i * hk.size) = expT hk prk info (i + 1) := by
  rw [expAll_take hk prk info (i + 1) (i + 2) (by omega), expAll_last]
theorem derAll_take (hk : HK) (pw salt : By) (m a b : Nat) (h : a ≤ b) : (derAll hk pw salt m b).take (a * hk.size) = derAll hk pw salt m a := by
  induction b with
  | zero => obtain rfl : a = 0 := by omega
            simp [derAll]
  | succ b ih =>
    by_cases hb : a ≤ b
    · have hm : a * hk.size ≤ b * hk.size := Nat.mul_le_mul_right _ hb
      simp only [derAll]
      rw [List.take_append_of_le_length (by rw [derAll_length]; exact hm)]
      exact ih hb
    · obtain rfl : a = b + 1 := by omega
      rw [List.take_of_length_le (Nat.le_of_eq (derAll_length _ _ _ _ _))]
theorem derive_length {hk : HK} (hok : hk.ok) (pw salt : By) (m n : Nat) : (derive hk pw salt m n).length = n := by
  unfold derive
  rw [List.length_take, derAll_length]
  have := up_le n hk.size hok.size_pos
  omega
theorem derive_prefix {hk : HK} (hok : hk.ok) (pw salt : By) (m x y : Nat) (h : x ≤ y) : (derive hk pw salt m y).take x = derive hk pw salt m x := by
  unfold derive
  rw [List.take_take, Nat.min_eq_left h]
  rw [← derAll_take hk pw salt m _ _ (up_mono x y hk.size h), List.take_take]
  congr 1
  have := up_le x hk.size hok.size_pos
  omega
theorem derive_mul {hk : HK} (hok : hk.ok) (pw salt : By) (m i : Nat) : derive hk pw salt m (i * hk.size) = derAll hk pw salt m i := by
  unfold derive
  rw [up_mul i hk.size hok.size_pos, List.take_of_length_le (Nat.le_of_eq (derAll_length _ _ _ _ _))]
theorem derAll_last (hk : HK) (pw salt : By) (m i : Nat) : (derAll hk pw salt m (i + 1)).drop (i * hk.size) = derF hk pw salt (i + 1) m := by
  simp only [derAll]
  rw [List.drop_append_of_le_length (by rw [derAll_length]; exact Nat.le_refl _), List.drop_of_length_le (by rw [derAll_length]; exact Nat.le_refl _), List.nil_append]
/-- One block. -/
theorem derive_one {hk : HK} (hok : hk.ok) (pw salt : By) (m : Nat) : derive hk pw salt m hk.size = derF hk pw salt 1 m := by
  have := derive_mul hok pw salt m 1
  rw [Nat.one_mul] at this
  rw [this]; rfl
theorem derU_noughts (hk : HK) (pw salt : By) (z i n : Nat) (h : pw.length + z ≤ hk.block) : derU hk (pw ++ List.replicate z 0) salt i n = derU hk pw salt i n := by
  induction n with
  | zero => exact mac_noughts hk pw _ z h
  | succ n ih => simp only [derU]; rw [ih, mac_noughts hk pw _ z h]
theorem derF_noughts (hk : HK) (pw salt : By) (z i n : Nat) (h : pw.length + z ≤ hk.block) : derF hk (pw ++ List.replicate z 0) salt i n = derF hk pw salt i n := by
  induction n with
  | zero => exact derU_noughts hk pw salt z i 0 h
  | succ n ih => simp only [derF]; rw [ih, derU_noughts hk pw salt z i (n + 1) h]
theorem derAll_noughts (hk : HK) (pw salt : By) (z m n : Nat) (h : pw.length + z ≤ hk.block) : derAll hk (pw ++ List.replicate z 0) salt m n = derAll hk pw salt m n := by
  induction n with
  | zero => rfl
  | succ n ih => simp only [derAll]; rw [ih, derF_noughts hk pw salt z _ m h]
theorem derive_noughts (hk : HK) (pw salt : By) (z m n : Nat) (h : pw.length + z ≤ hk.block) : derive hk (pw ++ List.replicate z 0) salt m n = derive hk pw salt m n := by
  unfold derive; rw [derAll_noughts hk pw salt z m _ h]
end Pu
end Go.Proofs.YtgomodhhomekpaaDoor
