/-
  A part of what this claim leans on: Ss, Pl, Sl, Ap, Ma, Mb, Mc, Md, Fc, Me, Mf, Mr, Ms. No conditions of its own.
-/
import Derived.Deep.RegionHeld3
import Derived.Test.YtgomodhhomekpaaM4
/-
  The sizes that the reference names.
-/
namespace Go.Proofs.Ytgomodhhomekpaa
open Go.RowKit Pu Ar
def SST (a : Act) (w : World) (s bl : Int) (a' : Act) (w' : World) : Prop := Frm 31 a' ∧ Same [0, 1, 2, 3] a a' ∧ G a' 26 = .bool (bad s bl) ∧ w' = w
set_option maxRecDepth 100000 in
theorem ssTest (a : Act) (w : World) (h : Frm 31 a) (Q : Exit → Act → World → Prop) (c : Nat) (s bl : Int) (g1 : G a 1 = .pointer (some ⟨c, 0, none⟩))
    (c1 : w.cell? ⟨c, 1, none⟩ = some (.int .i64 s)) (c2 : w.cell? ⟨c, 2, none⟩ = some (.int .i64 bl))
    (hQ : ∀ a' w', SST a w s bl a' w' → Q .normal a' w') :
    (part (bodyOf Try.f47) [true, true, false, false]).wp Try.prog Q a w := by
  conv => arg 2; whnf
  rw [lit31 a h]
  simp only [g1]
  have G1 := Lib.hid g1
  clear h g1
  by_cases h1 : s < 1
  · have hb : bad s bl = true := by simp [bad, h1]
    have HB := Lib.hid hb
    clear hb
    go_wp2
    have E1 := G1.out
    exact ⟨⟨rfl, rfl⟩, ⟨rfl, E1.symm, rfl, rfl, trivial⟩, by rw [HB.out]; rfl, rfl⟩
  by_cases h2 : 16 < s
  · have hb : bad s bl = true := by simp [bad, h2]
    have HB := Lib.hid hb
    clear hb
    go_wp2
    have E1 := G1.out
    exact ⟨⟨rfl, rfl⟩, ⟨rfl, E1.symm, rfl, rfl, trivial⟩, by rw [HB.out]; rfl, rfl⟩
  by_cases h3 : bl < s
  · have hb : bad s bl = true := by simp [bad, h3]
    have HB := Lib.hid hb
    clear hb
    go_wp2
    have E1 := G1.out
    exact ⟨⟨rfl, rfl⟩, ⟨rfl, E1.symm, rfl, rfl, trivial⟩, by rw [HB.out]; rfl, rfl⟩
  by_cases h4 : 32 < bl
  · have hb : bad s bl = true := by simp [bad, h4]
    have HB := Lib.hid hb
    clear hb
    go_wp2
    have E1 := G1.out
    exact ⟨⟨rfl, rfl⟩, ⟨rfl, E1.symm, rfl, rfl, trivial⟩, by rw [HB.out]; rfl, rfl⟩
  · have hb : bad s bl = false := by simp [bad, h1, h2, h3, h4]
    have HB := Lib.hid hb
    clear hb
    go_wp2
    have E1 := G1.out
    exact ⟨⟨rfl, rfl⟩, ⟨rfl, E1.symm, rfl, rfl, trivial⟩, by rw [HB.out]; rfl, rfl⟩
def szK (k s bl : Int) : Nat := if k = 1 then 32 else szOf s bl
def blK (k s bl : Int) : Nat := if k = 1 then 64 else blOf s bl
set_option maxRecDepth 100000 in
theorem sSizes (k s bl : Int) (w : World) : Calls Try.prog 47 #[.agg #[.int .i64 k, .int .i64 s, .int .i64 bl]] w fun e w' => e = .returned (.tuple #[.int .i64 (szK k s bl), .int .i64 (blK k s bl)]) ∧ Hid (Tch [] w w') := by
  go_enter Try.func47, Try.ntmps47
  refine wp_seq_k (fun K0 k0 => ?_)
  have H0 := Lib.hid k0
  clear k0
  go_wp2
  generalize hW1 : World.alloc _ _ = W1
  have R1 : Row W1 w.heap.size 23 [.int .i64 k, .int .i64 s, .int .i64 bl] := by rw [← hW1]; exact Row.new w 23 _
  have T1 : Hid (Tch [] w W1) := by rw [← hW1]; exact Tch.alloc _ _
  have c0 : W1.cell? ⟨w.heap.size, 0, none⟩ = some (.int .i64 k) := by rw [R1.cell]; rfl
  have c1 : W1.cell? ⟨w.heap.size, 1, none⟩ = some (.int .i64 s) := by rw [R1.cell]; rfl
  have c2 : W1.cell? ⟨w.heap.size, 2, none⟩ = some (.int .i64 bl) := by rw [R1.cell]; rfl
  clear hW1 R1
  obtain ⟨c, hc⟩ : ∃ c, c = w.heap.size := ⟨_, rfl⟩
  rw [← hc] at c0 c1 c2 ⊢
  clear hc
  by_cases hk : k = 1
  · have e1 : szK k s bl = 32 := by unfold szK; rw [if_pos hk]
    have e2 : blK k s bl = 64 := by unfold blK; rw [if_pos hk]
    have E1 := Lib.hid e1
    have E2 := Lib.hid e2
    subst hk
    clear e1 e2
    refine H0.out _ _ (wp_seq_k (fun K1 k1 => ?_))
    go_wp2
    go_ret2
    refine ⟨?_, T1.out⟩
    rw [E1.out, E2.out]; rfl
  · have e1 : szK k s bl = szOf s bl := by unfold szK; rw [if_neg hk]
    have e2 : blK k s bl = blOf s bl := by unfold blK; rw [if_neg hk]
    have E1 := Lib.hid e1
    have E2 := Lib.hid e2
    have hkb : (k == 1) = false := by simpa using hk
    clear e1 e2
    refine H0.out _ _ (wp_seq_k (fun K1 k1 => ?_))
    have H1 := Lib.hid k1
    clear k1
    go_wp2
    clear c0
    refine H1.out _ _ (wp_seq_k (fun K2 k2 => wp_seq_k (fun K3 k3 => ?_)))
    have H2 := Lib.hid k2
    have H3 := Lib.hid k3
    clear k2 k3
    refine ssTest _ W1 ⟨rfl, rfl⟩ _ c s bl rfl c1 c2 ?_
    rintro a' w' ⟨f, sm, g26, rfl⟩
    refine H3.out _ _ ?_
    have g1 : G a' 1 = .pointer (some ⟨c, 0, none⟩) := sm.get 1 rfl
    rw [lit31 a' f]
    cases hbad : bad s bl with
    | true =>
      rw [hbad] at g26
      simp only [g1, g26]
      have e1 : szOf s bl = 1 := by unfold szOf; rw [hbad]; rfl
      have e2 : blOf s bl = 16 := by unfold blOf; rw [hbad]; rfl
      have F1 := Lib.hid e1
      have F2 := Lib.hid e2
      clear f sm g1 g26 hbad e1 e2
      go_wp2
      go_ret2
      refine ⟨?_, T1.out⟩
      rw [E1.out, E2.out, F1.out, F2.out]; rfl
    | false =>
      rw [hbad] at g26
      simp only [g1, g26]
      obtain ⟨n1, n2, n3, n4⟩ := not_bad hbad
      have e1 : szOf s bl = s.toNat := by unfold szOf; rw [hbad]; rfl
      have e2 : blOf s bl = bl.toNat := by unfold blOf; rw [hbad]; rfl
      have F1 : Hid (((szOf s bl : Nat) : Int) = s) := by rw [e1]; show ((s.toNat : Nat) : Int) = s; omega
      have F2 : Hid (((blOf s bl : Nat) : Int) = bl) := by rw [e2]; show ((bl.toNat : Nat) : Int) = bl; omega
      clear f sm g1 g26 hbad e1 e2 n1 n2 n3 n4
      go_wp2
      refine H2.out _ _ ?_
      go_wp2
      go_quiet (fail)
      go_wp2
      go_ret2
      refine ⟨?_, T1.out.trans (Tch.drewN _ _)⟩
      rw [E1.out, E2.out, F1.out, F2.out]; rfl
theorem kind_size (kt : List UInt32) (k s bl : Int) : (kindOf kt k s bl).size = szK k s bl := by
  unfold kindOf szK szOf bad
  by_cases hk : k = 1
  · rw [if_pos hk, if_pos hk]; rfl
  · rw [if_neg hk, if_neg hk]
    by_cases h : s < 1 ∨ 16 < s ∨ bl < s ∨ 32 < bl
    · rw [if_pos h, decide_eq_true h]; rfl
    · rw [if_neg h, decide_eq_false h]; rfl
theorem kind_block (kt : List UInt32) (k s bl : Int) : (kindOf kt k s bl).block = blK k s bl := by
  unfold kindOf blK blOf bad
  by_cases hk : k = 1
  · rw [if_pos hk, if_pos hk]; rfl
  · rw [if_neg hk, if_neg hk]
    by_cases h : s < 1 ∨ 16 < s ∨ bl < s ∨ 32 < bl
    · rw [if_pos h, decide_eq_true h]; rfl
    · rw [if_neg h, decide_eq_false h]; rfl
set_option maxRecDepth 100000 in
theorem sSize (k s bl : Int) (w : World) : Calls Try.prog 27 #[.agg #[.int .i64 k, .int .i64 s, .int .i64 bl]] w fun e w' => e = .returned (.int .i64 (szK k s bl)) ∧ Hid (Tch [] w w') := by
  go_enter Try.func27, Try.ntmps27
  go_wp2_with (fail)
  refine (sSizes k s bl _).mono ?_
  rintro e W1 ⟨rfl, h⟩
  have h : Tch [] w W1 := Tch.trans (Tch.alloc _ _) h.out
  have H := Lib.hid h
  clear h
  go_wp2
  go_ret
  exact ⟨rfl, H.out⟩
set_option maxRecDepth 100000 in
theorem sBlock (k s bl : Int) (w : World) : Calls Try.prog 36 #[.agg #[.int .i64 k, .int .i64 s, .int .i64 bl]] w fun e w' => e = .returned (.int .i64 (blK k s bl)) ∧ Hid (Tch [] w w') := by
  go_enter Try.func36, Try.ntmps36
  go_wp2_with (fail)
  refine (sSizes k s bl _).mono ?_
  rintro e W1 ⟨rfl, h⟩
  have h : Tch [] w W1 := Tch.trans (Tch.alloc _ _) h.out
  have H := Lib.hid h
  clear h
  go_wp2
  go_ret
  exact ⟨rfl, H.out⟩
end Go.Proofs.Ytgomodhhomekpaa

/-
  Plain laws of HMAC, HKDF and PBKDF2 on lists of bytes. No program in sight.
-/
namespace Go.Proofs.Ytgomodhhomekpaa
namespace Pu
theorem mac_longKey' {hk : HK} (hok : hk.ok) (key data : By) (h : hk.block < key.length) : mac hk (hk.hash key) data = mac hk key data := by
  have e1 : keyOf hk key = hk.hash key := by unfold keyOf; rw [if_pos h]
  have e2 : keyOf hk (hk.hash key) = hk.hash key := by
    unfold keyOf
    rw [if_neg]
    rw [hk.hash_length]; have := hok.size_le_block; omega
  unfold mac opad ipad padKey
  rw [e1, e2]
theorem padKey_noughts (hk : HK) (key : By) (m : Nat) (h : key.length + m ≤ hk.block) : padKey hk (key ++ List.replicate m 0) = padKey hk key := by
  have e1 : keyOf hk key = key := by unfold keyOf; rw [if_neg (by omega)]
  have e2 : keyOf hk (key ++ List.replicate m 0) = key ++ List.replicate m 0 := by
    unfold keyOf; rw [if_neg (by simp; omega)]
  unfold padKey
  rw [e1, e2, List.append_assoc, List.replicate_append_replicate, List.length_append, List.length_replicate]
  congr 2; omega
/-- Noughts behind a key. -/
theorem mac_noughts (hk : HK) (key data : By) (m : Nat) (h : key.length + m ≤ hk.block) : mac hk (key ++ List.replicate m 0) data = mac hk key data := by
  unfold mac opad ipad
  rw [padKey_noughts hk key m h]
theorem extract_isMac {hk : HK} (hok : hk.ok) (secret salt : By) : extract hk secret salt = mac hk salt secret := by
  unfold extract
  split
  · next h =>
    subst h
    have := mac_noughts hk [] secret hk.size (by have := hok.size_le_block; simpa using this)
    simpa using this
  · rfl
theorem extract_noSalt {hk : HK} (hok : hk.ok) (secret : By) : extract hk secret [] = extract hk secret (List.replicate hk.size 0) := by
  rw [extract_isMac hok, extract_isMac hok]
  have := mac_noughts hk [] secret hk.size (by have := hok.size_le_block; simpa using this)
  simpa using this.symm
theorem expAll_take (hk : HK) (prk info : By) (a b : Nat) (h : a ≤ b) : (expAll hk prk info b).take (a * hk.size) = expAll hk prk info a := by
  induction b with
  | zero => obtain rfl : a = 0 := by omega
            simp [expAll]
  | succ b ih =>
    by_cases hb : a ≤ b
    · have hm : a * hk.size ≤ b * hk.size := Nat.mul_le_mul_right _ hb
      simp only [expAll]
      rw [List.take_append_of_le_length (by rw [expAll_length]; exact hm)]
      exact ih hb
    · obtain rfl : a = b + 1 := by omega
      rw [List.take_of_length_le (Nat.le_of_eq (expAll_length _ _ _ _))]
theorem up_le (x s : Nat) (hs : 1 ≤ s) : x ≤ (x + s - 1) / s * s := by
  have h := Nat.div_add_mod (x + s - 1) s
  have h2 := Nat.mod_lt (x + s - 1) (show 0 < s by omega)
  rw [Nat.mul_comm] at h
  omega
theorem up_mono (x y s : Nat) (h : x ≤ y) : (x + s - 1) / s ≤ (y + s - 1) / s := Nat.div_le_div_right (by omega)
theorem up_mul (i s : Nat) (hs : 1 ≤ s) : (i * s + s - 1) / s = i := by
  rw [Nat.div_eq_iff (by omega)]
  have : (i + 1) * s = i * s + s := Nat.succ_mul i s
  omega
theorem expand_length {hk : HK} (hok : hk.ok) (prk info : By) (n : Nat) : (expand hk prk info n).length = n := by
  unfold expand
  rw [List.length_take, expAll_length]
  have := up_le n hk.size hok.size_pos
  omega
theorem expand_prefix {hk : HK} (hok : hk.ok) (prk info : By) (x y : Nat) (h : x ≤ y) : (expand hk prk info y).take x = expand hk prk info x := by
  unfold expand
  rw [List.take_take, Nat.min_eq_left h]
  rw [← expAll_take hk prk info _ _ (up_mono x y hk.size h), List.take_take]
  congr 1
  have := up_le x hk.size hok.size_pos
  omega
theorem expand_mul {hk : HK} (hok : hk.ok) (prk info : By) (i : Nat) : expand hk prk info (i * hk.size) = expAll hk prk info i := by
  unfold expand
  rw [up_mul i hk.size hok.size_pos, List.take_of_length_le (Nat.le_of_eq (expAll_length _ _ _ _))]
theorem expAll_last (hk : HK) (prk info : By) (i : Nat) : (expAll hk prk info (i + 1)).drop (i * hk.size) = expT hk prk info (i + 1) := by
  simp only [expAll]
  rw [List.drop_append_of_le_length (by rw [expAll_length]; exact Nat.le_refl _), List.drop_of_length_le (by rw [expAll_length]; exact Nat.le_refl _), List.nil_append]
/-- The last block but one. -/
theorem expAll_ahead (hk : HK) (prk info : By) (i : Nat) : ((expAll hk prk info (i + 2)).take ((i + 1) * hk.size)).drop (i * hk.size) = expT hk prk info (i + 1) := by
  rw [expAll_take hk prk info (i + 1) (i + 2) (by omega), expAll_last]
theorem derAll_take (hk : HK) (pw salt : By) (m a b : Nat) (h : a ≤ b) : (derAll hk pw salt m b).take (a * hk.size) = derAll hk pw salt m a := by
  induction b with
  | zero => obtain rfl : a = 0 := by omega
            simp [derAll]
  | succ b ih =>
    by_cases hb : a ≤ b
    · have hm : a * hk.size ≤ b * hk.size := Nat.mul_le_mul_right _ hb
      simp only [derAll]
      rw [List.take_append_of_le_length (by rw [derAll_length]; exact hm)]
      exact ih hb
    · obtain rfl : a = b + 1 := by omega
      rw [List.take_of_length_le (Nat.le_of_eq (derAll_length _ _ _ _ _))]
theorem derive_length {hk : HK} (hok : hk.ok) (pw salt : By) (m n : Nat) : (derive hk pw salt m n).length = n := by
  unfold derive
  rw [List.length_take, derAll_length]
  have := up_le n hk.size hok.size_pos
  omega
theorem derive_prefix {hk : HK} (hok : hk.ok) (pw salt : By) (m x y : Nat) (h : x ≤ y) : (derive hk pw salt m y).take x = derive hk pw salt m x := by
  unfold derive
  rw [List.take_take, Nat.min_eq_left h]
  rw [← derAll_take hk pw salt m _ _ (up_mono x y hk.size h), List.take_take]
  congr 1
  have := up_le x hk.size hok.size_pos
  omega
theorem derive_mul {hk : HK} (hok : hk.ok) (pw salt : By) (m i : Nat) : derive hk pw salt m (i * hk.size) = derAll hk pw salt m i := by
  unfold derive
  rw [up_mul i hk.size hok.size_pos, List.take_of_length_le (Nat.le_of_eq (derAll_length _ _ _ _ _))]
theorem derAll_last (hk : HK) (pw salt : By) (m i : Nat) : (derAll hk pw salt m (i + 1)).drop (i * hk.size) = derF hk pw salt (i + 1) m := by
  simp only [derAll]
  rw [List.drop_append_of_le_length (by rw [derAll_length]; exact Nat.le_refl _), List.drop_of_length_le (by rw [derAll_length]; exact Nat.le_refl _), List.nil_append]
/-- One block. -/
theorem derive_one {hk : HK} (hok : hk.ok) (pw salt : By) (m : Nat) : derive hk pw salt m hk.size = derF hk pw salt 1 m := by
  have := derive_mul hok pw salt m 1
  rw [Nat.one_mul] at this
  rw [this]; rfl
theorem derU_noughts (hk : HK) (pw salt : By) (z i n : Nat) (h : pw.length + z ≤ hk.block) : derU hk (pw ++ List.replicate z 0) salt i n = derU hk pw salt i n := by
  induction n with
  | zero => exact mac_noughts hk pw _ z h
  | succ n ih => simp only [derU]; rw [ih, mac_noughts hk pw _ z h]
theorem derF_noughts (hk : HK) (pw salt : By) (z i n : Nat) (h : pw.length + z ≤ hk.block) : derF hk (pw ++ List.replicate z 0) salt i n = derF hk pw salt i n := by
  induction n with
  | zero => exact derU_noughts hk pw salt z i 0 h
  | succ n ih => simp only [derF]; rw [ih, derU_noughts hk pw salt z i (n + 1) h]
theorem derAll_noughts (hk : HK) (pw salt : By) (z m n : Nat) (h : pw.length + z ≤ hk.block) : derAll hk (pw ++ List.replicate z 0) salt m n = derAll hk pw salt m n := by
  induction n with
  | zero => rfl
  | succ n ih => simp only [derAll]; rw [ih, derF_noughts hk pw salt z _ m h]
theorem derive_noughts (hk : HK) (pw salt : By) (z m n : Nat) (h : pw.length + z ≤ hk.block) : derive hk (pw ++ List.replicate z 0) salt m n = derive hk pw salt m n := by
  unfold derive; rw [derAll_noughts hk pw salt z m _ h]
end Pu
end Go.Proofs.Ytgomodhhomekpaa

/-
  Slices of what came in; slices of slices that have just been made.
-/
namespace Go.Proofs.Ytgomodhhomekpaa
open Go.RowKit Pu Ar
theorem rd_ex {w : World} {v : Value} {l : By} (h : Rd w v l) : ∃ p cap, v = .slice p l.length cap := by
  obtain ⟨p, cap, hv, _⟩ := h; exact ⟨p, cap, hv⟩
/-- A slice of slices that has just been made. -/
theorem prd_new {w w1 : World} {b : Nat} {vs : List Value} {ps : List By} {n : Nat} (hn : n = ps.length) (hr : Row w1 b 24 vs) (k : Tch [] w w1) (hl : vs.length = ps.length) (hm : ps.length ≤ 1000) (h : ∀ (i : Nat) (u : Value) (x : By), vs[i]? = some u → ps[i]? = some x → Rd w u x) :
    PRd w1 (.slice (some ⟨b, 0, none⟩) n n) ps := by
  subst hn
  refine ⟨_, _, rfl, Nat.le_refl _, by unfold maxLen; omega, .inr ⟨b, 0, rfl, fun i x hx => ?_⟩⟩
  have hi : i < ps.length := by
    rcases Nat.lt_or_ge i ps.length with h | h
    · exact h
    · rw [List.getElem?_eq_none h] at hx; cases hx
  have e := List.getElem?_eq_getElem (l := vs) (show i < vs.length by omega)
  refine ⟨_, by rw [hr.cell, Nat.zero_add]; exact e, (h i _ x e hx).tchNil k⟩
theorem prd_three {w : World} {u v t : Value} {x y z : By} (hu : Rd w u x) (hv : Rd w v y) (ht : Rd w t z) : PRd (w.alloc (.cells #[u, v, t] 24)) (.slice (some ⟨w.heap.size, 0, none⟩) 3 3) [x, y, z] := by
  refine prd_new (vs := [u, v, t]) rfl (Row.new w 24 [u, v, t]) (Tch.alloc _ _) rfl (by simp) ?_
  intro i a b h1 h2
  match i with
  | 0 => simp at h1 h2; subst h1; subst h2; exact hu
  | 1 => simp at h1 h2; subst h1; subst h2; exact hv
  | 2 => simp at h1 h2; subst h1; subst h2; exact ht
  | i + 3 => simp at h1
theorem prd_two {w : World} {u v : Value} {x y : By} (hu : Rd w u x) (hv : Rd w v y) : PRd (w.alloc (.cells #[u, v] 24)) (.slice (some ⟨w.heap.size, 0, none⟩) 2 2) [x, y] := by
  refine prd_new (vs := [u, v]) rfl (Row.new w 24 [u, v]) (Tch.alloc _ _) rfl (by simp) ?_
  intro i a b h1 h2
  match i with
  | 0 => simp at h1 h2; subst h1; subst h2; exact hu
  | 1 => simp at h1 h2; subst h1; subst h2; exact hv
  | i + 2 => simp at h1
theorem prd_one {w : World} {u : Value} {x : By} (hu : Rd w u x) : PRd (w.alloc (.cells #[u] 24)) (.slice (some ⟨w.heap.size, 0, none⟩) 1 1) [x] := by
  refine prd_new (vs := [u]) rfl (Row.new w 24 [u]) (Tch.alloc _ _) rfl (by simp) ?_
  intro i a b h1 h2
  match i with
  | 0 => simp at h1 h2; subst h1; subst h2; exact hu
  | i + 1 => simp at h1
end Go.Proofs.Ytgomodhhomekpaa

/-
  append where there is room: a slice, a text, noughts; words written behind a row.
-/
namespace Go.Proofs.Ytgomodhhomekpaa
open Go.RowKit Pu Ar
/-- Block g is a row of cap bytes, the first of which are l. -/
def OwnC (w : World) (g cap : Nat) (l : By) : Prop := l.length ≤ cap ∧ cap ≤ maxLen ∧ ∃ cur, Row w g 5 cur ∧ cur.length = cap ∧ cur.take l.length = l.map vb
theorem OwnC.tch {S : List Nat} {w w' : World} {g cap : Nat} {l : By} (h : OwnC w g cap l) (k : Tch S w w') (hn : g ∉ S) : OwnC w' g cap l := by
  obtain ⟨h1, h2, cur, hr, h3⟩ := h
  exact ⟨h1, h2, cur, hr.tch k hn, h3⟩
theorem OwnC.own {w : World} {g cap : Nat} {l : By} (h : OwnC w g cap l) : Own w (.slice (some ⟨g, 0, none⟩) l.length cap) l := by
  obtain ⟨h1, h2, cur, hr, h3, h4⟩ := h
  exact ⟨by simp, .inr ⟨g, cap, cur.toArray, rfl, Nat.zero_le _, hr, h1, h2, by simp [h3], by simpa using h4⟩⟩
theorem OwnC.lt {w : World} {g cap : Nat} {l : By} (h : OwnC w g cap l) : g < w.heap.size := by
  obtain ⟨_, _, cur, hr, _⟩ := h; exact hr.lt
theorem OwnC.new (w : World) (n : Nat) (hn : n ≤ maxLen) : OwnC (w.alloc (.cells (List.replicate n (Value.int .u8 0)).toArray 5)) w.heap.size n [] :=
  ⟨Nat.zero_le _, hn, _, Row.new w 5 _, by simp, rfl⟩
theorem OwnC.put {w : World} {g cap : Nat} {l ys : By} {cur : List Value} (h1 : Row w g 5 cur) (h2 : cur.length = cap) (h3 : cur.take l.length = l.map vb) (hm : cap ≤ maxLen) (hroom : l.length + ys.length ≤ cap) :
    OwnC (w.setRow g (cur.take l.length ++ (ys.map vb ++ cur.drop (l.length + ys.length))).toArray) g cap (l ++ ys) := by
  refine ⟨by rw [List.length_append]; exact hroom, hm, _, h1.setRow _, ?_, ?_⟩
  · simp only [List.length_append, List.length_take, List.length_map, List.length_drop]; omega
  · rw [h3, List.length_append, ← List.append_assoc, List.map_append]
    have : l.length + ys.length = (l.map vb ++ ys.map vb).length := by simp
    rw [this]
    exact List.take_left' rfl
/-- A slice behind a row with room. -/
theorem run_append_c (w : World) (ty : TypeId) (g cap : Nat) (xs ys : By) (u : Value) (h : OwnC w g cap xs) (hy : Rd w u ys) (hroom : xs.length + ys.length ≤ cap) :
    ∃ w', (Builtin.append_ #[24, 24] ty #[.slice (some ⟨g, 0, none⟩) xs.length cap, u]).run Try.prog w = .ok (.slice (some ⟨g, 0, none⟩) (xs ++ ys).length cap) w' ∧ OwnC w' g cap (xs ++ ys) ∧ Tch [g] w w' := by
  obtain ⟨i, hi, hz0, hz1, hz2⟩ := info_parts infoByte
  have ht : Try.prog.underlying 24 = some (.slice 5) := Try.underlying24
  obtain ⟨h1, hm, cur, hr, hl, htk⟩ := id h
  obtain ⟨p, pc, rfl, hc, hmax, hrd⟩ := id hy
  by_cases h0 : ys = []
  · subst h0
    refine ⟨w, ?_, by simpa using h, Tch.refl _ _⟩
    cases p <;> simp [Builtin.append_, run_underlying ht, sizeOf, typeInfo, hi, Builtin.lenOf, Builtin.firstCells, loadCells, loadCellsFrom, storeCells, h1]
  · obtain ⟨ad, rfl, hnews⟩ := hy.news h0
    have hfit : xs.length * i.size + (ys.map vb).length ≤ cur.toArray.size := by rw [hz1, List.length_map]; simp; omega
    have hrun := run_append_room (P := Try.prog) w 24 ty 5 i ht hi g xs.length cap cur.toArray hr ad ys.length pc (ys.map vb) (by simp [hz1]) hnews (vbs_one ys) hroom hfit
    refine ⟨_, by rw [List.length_append]; exact hrun, ?_, Tch.setRow _ _ _ (by simp)⟩
    have := OwnC.put hr hl htk hm hroom
    simp only [hz1, Nat.mul_one, List.length_map]
    rw [List.append_assoc]
    exact this
/-- A text behind a row with room. -/
theorem run_append_str (w : World) (ty : TypeId) (g cap : Nat) (xs : By) (s : ByteArray) (h : OwnC w g cap xs) (hroom : xs.length + s.size ≤ cap) :
    ∃ w', (Builtin.append_ #[24, 9] ty #[.slice (some ⟨g, 0, none⟩) xs.length cap, .string s]).run Try.prog w = .ok (.slice (some ⟨g, 0, none⟩) (xs ++ s.data.toList).length cap) w' ∧ OwnC w' g cap (xs ++ s.data.toList) ∧ Tch [g] w w' := by
  obtain ⟨i, hi, hz0, hz1, hz2⟩ := info_parts infoByte
  have ht : Try.prog.underlying 24 = some (.slice 5) := Try.underlying24
  have hts : Try.prog.underlying 9 = some .string := Try.underlying9
  obtain ⟨h1, hm, cur, hr, hl, htk⟩ := id h
  have hsz : s.data.toList.length = s.size := by show s.data.toList.length = s.data.size; exact Array.length_toList
  have hst := run_storeCells_at Try.prog g (xs.length * i.size) 5 (s.data.toList.map vb) 0 cur.toArray w hr (by rw [hz1, List.length_map, hsz]; simp; omega) (vbs_one _)
  simp only [Nat.add_zero] at hst
  have e : List.take s.size (List.map (fun b : UInt8 => Value.int .u8 (b.toNat : Int)) s.data.toList) = s.data.toList.map vb := by
    rw [List.take_of_length_le (by rw [List.length_map, hsz]; exact Nat.le_refl _)]; rfl
  simp only [hz1, Nat.mul_one, List.length_map, hsz, List.append_assoc] at hst
  refine ⟨_, ?_, OwnC.put hr hl htk hm (by rw [hsz]; exact hroom), Tch.setRow _ _ _ (by simp)⟩
  have hroom' : xs.length + s.size ≤ cap := hroom
  simp [Builtin.append_, run_underlying ht, run_underlying hts, sizeOf, typeInfo, hi, Builtin.lenOf, hroom', Builtin.firstCells, Addr.add_lit, hsz, hz1, e, hst]
/-- Noughts behind a row with room. -/
theorem run_append_noughts (w : World) (ty : TypeId) (g cap n : Nat) (xs : By) (h : OwnC w g cap xs) (hroom : xs.length + n ≤ cap) (hn : n ≤ 1000) :
    ∃ w', (Builtin.append_ #[24, 3] ty #[.slice (some ⟨g, 0, none⟩) xs.length cap, .int .i64 (n : Int)]).run Try.prog w = .ok (.slice (some ⟨g, 0, none⟩) (xs ++ List.replicate n 0).length cap) w' ∧ OwnC w' g cap (xs ++ List.replicate n 0) ∧ Tch [g] w w' := by
  obtain ⟨i, hi, hz0, hz1, hz2⟩ := info_parts infoByte
  have ht : Try.prog.underlying 24 = some (.slice 5) := Try.underlying24
  have hti : Try.prog.underlying 3 = some (.int .i64) := Try.underlying3
  obtain ⟨h1, hm, cur, hr, hl, htk⟩ := id h
  have hst := run_storeCells_at Try.prog g (xs.length * i.size) 5 ((List.replicate n (0 : UInt8)).map vb) 0 cur.toArray w hr (by rw [hz1, List.length_map]; simp; omega) (vbs_one _)
  simp only [Nat.add_zero] at hst
  have hz : Builtin.zeroCells (Value.int .u8 0).cells n = ((List.replicate n (0 : UInt8)).map vb).toArray := by
    unfold Builtin.zeroCells
    apply Array.ext
    · simp [Value.cells]
    · intro j h1 h2
      simp [Value.cells, Nat.mod_one, vb, ib]
  have hw : IntKind.i64.wrap (n : Int) = n := by rw [IntKind.wrap_i64]; omega
  refine ⟨_, ?_, OwnC.put hr hl htk hm (by rw [List.length_replicate]; exact hroom), Tch.setRow _ _ _ (by simp)⟩
  have h3 : ¬ (n : Int) < 0 := by omega
  have h4 : ¬ (n : Int) * 1 > 2 ^ 48 := by omega
  simp only [hz1, Nat.mul_one, List.length_map, List.length_replicate, List.append_assoc] at hst
  by_cases h0 : n = 0
  · subst h0
    simp [Builtin.append_, run_underlying ht, run_underlying hti, sizeOf, typeInfo, hi, hz1, hz2, Addr.add_lit, asInt, asIntOf, IntKind.wrap_i64, h1]
    simp only [List.replicate_zero, List.map_nil] at hst
    rw [hst]
    simp
  · have h4' : ¬ (281474976710656 : Int) < (n : Int) := by omega
    simp only [List.map_replicate] at hst hz
    simp [Builtin.append_, run_underlying ht, run_underlying hti, sizeOf, typeInfo, hi, hz1, hz2, Addr.add_lit, asInt, asIntOf, hw, hroom, h3, h4', h0, hz0, hz, zeroValue, hst]
end Go.Proofs.Ytgomodhhomekpaa

/-
  A digest's state written out: AppendBinary, MarshalBinary.
-/
namespace Go.Proofs.Ytgomodhhomekpaa
open Go.RowKit Pu Ar
theorem wpList_append_c {w : World} {ops : Array Oper} {rest : List Oper} {o : Oper} {a : Act} {Q : Exit → Act → World → Prop} (hgd : o.guard = none) (s x : Operand)
    (ho : o.op = .call { callee := .builtin .append, args := #[s, x], argTypes := #[24, 24] }) (g cap n N : Nat) (u : Value) (xs ys : By) (hn : n = xs.length) (hN : N = (xs ++ ys).length) (hs : a.eval s = .slice (some ⟨g, 0, none⟩) n cap) (hx : a.eval x = u)
    (hown : OwnC w g cap xs) (hy : Rd w u ys) (hroom : xs.length + ys.length ≤ cap)
    (h : ∀ w', Hid (OwnC w' g cap (xs ++ ys) ∧ Tch [g] w w') → wpList Try.prog ops Q rest (a.put o.dst (.slice (some ⟨g, 0, none⟩) N cap)) w') : wpList Try.prog ops Q (o :: rest) a w := by
  obtain ⟨w', hr, h1⟩ := run_append_c w o.type g cap xs ys u hown hy hroom
  subst hn hN
  refine wpList_plain hgd fun _ hK => ?_
  unfold Oper.wp execOp
  simp only [ho, resolve, invoke, builtin, Sem.run_bind, Sem.run_pure, Result.andThen_ok, List.map_toArray, List.map_cons, List.map_nil, hs, hx, hr]
  exact hK _ _ (h w' h1)
theorem rd_cells (w : World) (l : By) (cs : Array Value) (n : Nat) (hn : n = l.length) (hl : l.length ≤ 1000) (h : cs.toList = l.map vb) : Rd (w.alloc (.cells cs 5)) (.slice (some ⟨w.heap.size, 0, none⟩) n n) l := by
  obtain ⟨cl⟩ := cs
  simp only at h
  subst h
  subst hn
  refine ⟨some ⟨w.heap.size, 0, none⟩, _, rfl, Nat.le_refl _, by unfold maxLen; omega, .inr ⟨_, 0, rfl, fun i x hx => ?_⟩⟩
  have := (Row.new w 5 (l.map vb)).cell (0 + i)
  rw [this, Nat.zero_add, List.getElem?_map, hx]; rfl
set_option maxRecDepth 100000 in
theorem app32 (g cap n : Nat) (xs : By) (x : UInt32) (w : World) (h : OwnC w g cap xs) (hn : n = xs.length) (hroom : n + 4 ≤ cap) :
    Calls Try.prog 106 #[.slice (some ⟨g, 0, none⟩) n cap, .int .u32 (iw x)] w fun e w' => e = .returned (.slice (some ⟨g, 0, none⟩) (n + 4) cap) ∧ Hid (OwnC w' g cap (xs ++ be32 x) ∧ Tch [g] w w') := by
  have e1 := shr32_24 x
  have e2 := shr32_16 x
  have e3 := shr32_8 x
  have e4 := low32
  have H := Lib.hid h
  have HR := Lib.hid hroom
  have HN := Lib.hid hn
  clear h hroom hn
  go_enter Try.func106, Try.ntmps106
  go_wp2_with (refine wpList_append_c rfl _ _ rfl g cap n (n + 4) _ xs (be32 x) HN.out (by rw [List.length_append, ← HN.out]; rfl) rfl rfl (H.out.tch (S := []) (Tch.alloc _ _) (by simp)) (rd_cells w (be32 x) _ 4 rfl (by simp [be32]) rfl) (by have := HR.out; rw [← HN.out]; exact this) ?_)
  intro w' h5
  go_wp2
  go_ret
  exact ⟨rfl, h5.out.1, (Tch.alloc (S := [g]) w _).trans h5.out.2⟩
set_option maxRecDepth 100000 in
theorem app64 (g cap n : Nat) (xs : By) (x : UInt64) (w : World) (h : OwnC w g cap xs) (hn : n = xs.length) (hroom : n + 8 ≤ cap) :
    Calls Try.prog 107 #[.slice (some ⟨g, 0, none⟩) n cap, .int .u64 (iq x)] w fun e w' => e = .returned (.slice (some ⟨g, 0, none⟩) (n + 8) cap) ∧ Hid (OwnC w' g cap (xs ++ be64 x) ∧ Tch [g] w w') := by
  have d0 := shr64_56 x
  have d1 := shr64_48 x
  have d2 := shr64_40 x
  have d3 := shr64_32 x
  have d4 := shr64_24 x
  have d5 := shr64_16 x
  have d6 := shr64_8 x
  have e4 := low64
  have H := Lib.hid h
  have HR := Lib.hid hroom
  have HN := Lib.hid hn
  clear h hroom hn
  go_enter Try.func107, Try.ntmps107
  go_wp2_with (refine wpList_append_c rfl _ _ rfl g cap n (n + 8) _ xs (be64 x) HN.out (by rw [List.length_append, ← HN.out]; rfl) rfl rfl (H.out.tch (S := []) (Tch.alloc _ _) (by simp)) (rd_cells w (be64 x) _ 8 rfl (by simp [be64]) rfl) (by have := HR.out; rw [← HN.out]; exact this) ?_)
  intro w' h5
  go_wp2
  go_ret
  exact ⟨rfl, h5.out.1, (Tch.alloc (S := [g]) w _).trans h5.out.2⟩
theorem wpList_append_str {w : World} {ops : Array Oper} {rest : List Oper} {o : Oper} {a : Act} {Q : Exit → Act → World → Prop} (hgd : o.guard = none) (s x : Operand)
    (ho : o.op = .call { callee := .builtin .append, args := #[s, x], argTypes := #[24, 9] }) (g cap n N : Nat) (u : ByteArray) (xs : By) (hn : n = xs.length) (hN : N = (xs ++ u.data.toList).length) (hs : a.eval s = .slice (some ⟨g, 0, none⟩) n cap) (hx : a.eval x = .string u)
    (hown : OwnC w g cap xs) (hroom : xs.length + u.size ≤ cap)
    (h : ∀ w', Hid (OwnC w' g cap (xs ++ u.data.toList) ∧ Tch [g] w w') → wpList Try.prog ops Q rest (a.put o.dst (.slice (some ⟨g, 0, none⟩) N cap)) w') : wpList Try.prog ops Q (o :: rest) a w := by
  obtain ⟨w', hr, h1⟩ := run_append_str w o.type g cap xs u hown hroom
  subst hn hN
  refine wpList_plain hgd fun _ hK => ?_
  unfold Oper.wp execOp
  simp only [ho, resolve, invoke, builtin, Sem.run_bind, Sem.run_pure, Result.andThen_ok, List.map_toArray, List.map_cons, List.map_nil, hs, hx, hr]
  exact hK _ _ (h w' h1)
theorem wpList_append_noughts {w : World} {ops : Array Oper} {rest : List Oper} {o : Oper} {a : Act} {Q : Exit → Act → World → Prop} (hgd : o.guard = none) (s x : Operand)
    (ho : o.op = .call { callee := .builtin .append, args := #[s, x], argTypes := #[24, 3] }) (g cap n N m : Nat) (i : Int) (hi : i = m) (xs : By) (hn : n = xs.length) (hN : N = xs.length + m) (hs : a.eval s = .slice (some ⟨g, 0, none⟩) n cap) (hx : a.eval x = .int .i64 i)
    (hown : OwnC w g cap xs) (hroom : xs.length + m ≤ cap) (hm : m ≤ 1000)
    (h : ∀ w', Hid (OwnC w' g cap (xs ++ List.replicate m 0) ∧ Tch [g] w w') → wpList Try.prog ops Q rest (a.put o.dst (.slice (some ⟨g, 0, none⟩) N cap)) w') : wpList Try.prog ops Q (o :: rest) a w := by
  obtain ⟨w', hr, h1⟩ := run_append_noughts w o.type g cap m xs hown hroom hm
  rw [List.length_append, List.length_replicate] at hr
  subst hn hN hi
  refine wpList_plain hgd fun _ hK => ?_
  unfold Oper.wp execOp
  simp only [ho, resolve, invoke, builtin, Sem.run_bind, Sem.run_pure, Result.andThen_ok, List.map_toArray, List.map_cons, List.map_nil, hs, hx, hr]
  exact hK _ _ (h w' h1)
/-- The words of a state, so many of them. -/
def S8.list (s : S8) : List UInt32 := [s.a, s.b, s.c, s.d, s.e, s.f, s.g, s.h]
def magic : By := [115, 104, 97, 3]
/-- A state written out, behind whole blocks. -/
def marsh (s : S8) (ln : Nat) : By := magic ++ be32 s.a ++ be32 s.b ++ be32 s.c ++ be32 s.d ++ be32 s.e ++ be32 s.f ++ be32 s.g ++ be32 s.h ++ [] ++ List.replicate 64 0 ++ be64 (UInt64.ofNat ln)
theorem marsh_length (s : S8) (ln : Nat) : (marsh s ln).length = 108 := rfl
set_option maxHeartbeats 1000000 in
set_option maxRecDepth 100000 in
theorem digAppend (b g : Nat) (s : S8) (x : By) (ln : Nat) (w : World) (hD : Dig w b s x 0 ln) (hl : ln < 18446744073709551616) (hg : OwnC w g 108 []) (hne : b ≠ g) :
    Calls Try.prog 101 #[.pointer (some ⟨b, 0, none⟩), .slice (some ⟨g, 0, none⟩) 0 108] w fun e w' => e = .returned (.tuple #[.slice (some ⟨g, 0, none⟩) 108 108, .nilIface]) ∧ Hid (OwnC w' g 108 (marsh s ln) ∧ Tch [g] w w') := by
  have hx64 := hD.len
  have c74 := hD.is224
  have hiq : (ln : Int) = iq (UInt64.ofNat ln) := by
    unfold iq
    rw [UInt64.toNat_ofNat', Nat.mod_eq_of_lt hl]
  have HD : Hid (∀ w', Tch [g] w w' → w'.cell? ⟨b, 0, none⟩ = some (.int .u32 (iw s.a)) ∧ w'.cell? ⟨b, 1, none⟩ = some (.int .u32 (iw s.b)) ∧ w'.cell? ⟨b, 2, none⟩ = some (.int .u32 (iw s.c)) ∧ w'.cell? ⟨b, 3, none⟩ = some (.int .u32 (iw s.d)) ∧ w'.cell? ⟨b, 4, none⟩ = some (.int .u32 (iw s.e)) ∧ w'.cell? ⟨b, 5, none⟩ = some (.int .u32 (iw s.f)) ∧ w'.cell? ⟨b, 6, none⟩ = some (.int .u32 (iw s.g)) ∧ w'.cell? ⟨b, 7, none⟩ = some (.int .u32 (iw s.h)) ∧ w'.cell? ⟨b, 72, none⟩ = some (.int .i64 0) ∧ w'.cell? ⟨b, 73, none⟩ = some (.int .u64 (iq (UInt64.ofNat ln)))) := by
    intro w' k
    have hr := (hD.tch k (by simpa using hne)).row
    refine ⟨?_, ?_, ?_, ?_, ?_, ?_, ?_, ?_, ?_, ?_⟩
    all_goals first | (rw [hr.cell]; rfl) | skip
    · exact (hD.tch k (by simpa using hne)).nx
    · rw [← hiq]; exact (hD.tch k (by simpa using hne)).ln
  have HG := Lib.hid hg
  have HNE := Lib.hid hne
  clear hD hl hg hne hx64 hiq
  have hnot : (Op.unary .not (.bool false)) = pure (.bool true) := rfl
  go_enter Try.func101, Try.ntmps101
  go_wp2_with (refine wpList_append_str rfl _ _ rfl g 108 0 4 ⟨#[115, 104, 97, 3]⟩ [] rfl rfl rfl rfl HG.out (by decide) ?_)
  intro w0 h0
  have M0 : Hid (OwnC w0 g 108 magic) := h0.out.1
  have T0 : Hid (Tch [g] w w0) := h0.out.2
  clear h0 c74
  have d0 := (HD.out w0 T0.out).1
  go_wp2_with (fail)
  refine (app32 g 108 4 (magic) s.a w0 M0.out rfl (by omega)).mono ?_
  rintro e w1 ⟨rfl, h1⟩
  have M1 : Hid (OwnC w1 g 108 (magic ++ be32 s.a)) := h1.out.1
  have T1 : Hid (Tch [g] w w1) := T0.out.trans h1.out.2
  clear d0 h1 M0 T0
  have d1 := (HD.out w1 T1.out).2.1
  go_wp2_with (fail)
  refine (app32 g 108 8 (magic ++ be32 s.a) s.b w1 M1.out rfl (by omega)).mono ?_
  rintro e w2 ⟨rfl, h2⟩
  have M2 : Hid (OwnC w2 g 108 (magic ++ be32 s.a ++ be32 s.b)) := h2.out.1
  have T2 : Hid (Tch [g] w w2) := T1.out.trans h2.out.2
  clear d1 h2 M1 T1
  have d2 := (HD.out w2 T2.out).2.2.1
  go_wp2_with (fail)
  refine (app32 g 108 12 (magic ++ be32 s.a ++ be32 s.b) s.c w2 M2.out rfl (by omega)).mono ?_
  rintro e w3 ⟨rfl, h3⟩
  have M3 : Hid (OwnC w3 g 108 (magic ++ be32 s.a ++ be32 s.b ++ be32 s.c)) := h3.out.1
  have T3 : Hid (Tch [g] w w3) := T2.out.trans h3.out.2
  clear d2 h3 M2 T2
  have d3 := (HD.out w3 T3.out).2.2.2.1
  go_wp2_with (fail)
  refine (app32 g 108 16 (magic ++ be32 s.a ++ be32 s.b ++ be32 s.c) s.d w3 M3.out rfl (by omega)).mono ?_
  rintro e w4 ⟨rfl, h4⟩
  have M4 : Hid (OwnC w4 g 108 (magic ++ be32 s.a ++ be32 s.b ++ be32 s.c ++ be32 s.d)) := h4.out.1
  have T4 : Hid (Tch [g] w w4) := T3.out.trans h4.out.2
  clear d3 h4 M3 T3
  have d4 := (HD.out w4 T4.out).2.2.2.2.1
  go_wp2_with (fail)
  refine (app32 g 108 20 (magic ++ be32 s.a ++ be32 s.b ++ be32 s.c ++ be32 s.d) s.e w4 M4.out rfl (by omega)).mono ?_
  rintro e w5 ⟨rfl, h5⟩
  have M5 : Hid (OwnC w5 g 108 (magic ++ be32 s.a ++ be32 s.b ++ be32 s.c ++ be32 s.d ++ be32 s.e)) := h5.out.1
  have T5 : Hid (Tch [g] w w5) := T4.out.trans h5.out.2
  clear d4 h5 M4 T4
  have d5 := (HD.out w5 T5.out).2.2.2.2.2.1
  go_wp2_with (fail)
  refine (app32 g 108 24 (magic ++ be32 s.a ++ be32 s.b ++ be32 s.c ++ be32 s.d ++ be32 s.e) s.f w5 M5.out rfl (by omega)).mono ?_
  rintro e w6 ⟨rfl, h6⟩
  have M6 : Hid (OwnC w6 g 108 (magic ++ be32 s.a ++ be32 s.b ++ be32 s.c ++ be32 s.d ++ be32 s.e ++ be32 s.f)) := h6.out.1
  have T6 : Hid (Tch [g] w w6) := T5.out.trans h6.out.2
  clear d5 h6 M5 T5
  have d6 := (HD.out w6 T6.out).2.2.2.2.2.2.1
  go_wp2_with (fail)
  refine (app32 g 108 28 (magic ++ be32 s.a ++ be32 s.b ++ be32 s.c ++ be32 s.d ++ be32 s.e ++ be32 s.f) s.g w6 M6.out rfl (by omega)).mono ?_
  rintro e w7 ⟨rfl, h7⟩
  have M7 : Hid (OwnC w7 g 108 (magic ++ be32 s.a ++ be32 s.b ++ be32 s.c ++ be32 s.d ++ be32 s.e ++ be32 s.f ++ be32 s.g)) := h7.out.1
  have T7 : Hid (Tch [g] w w7) := T6.out.trans h7.out.2
  clear d6 h7 M6 T6
  have d7 := (HD.out w7 T7.out).2.2.2.2.2.2.2.1
  go_wp2_with (fail)
  refine (app32 g 108 32 (magic ++ be32 s.a ++ be32 s.b ++ be32 s.c ++ be32 s.d ++ be32 s.e ++ be32 s.f ++ be32 s.g) s.h w7 M7.out rfl (by omega)).mono ?_
  rintro e w8 ⟨rfl, h8⟩
  have M8 : Hid (OwnC w8 g 108 (magic ++ be32 s.a ++ be32 s.b ++ be32 s.c ++ be32 s.d ++ be32 s.e ++ be32 s.f ++ be32 s.g ++ be32 s.h)) := h8.out.1
  have T8 : Hid (Tch [g] w w8) := T7.out.trans h8.out.2
  clear d7 h8 M7 T7
  have d8 := (HD.out w8 T8.out).2.2.2.2.2.2.2.2.1
  go_wp2
  refine wp_region_quiet_tail 9 (by kernel_rfl) (by kernel_rfl) ?_
  simp only [List.take_succ_cons, List.take_zero, List.drop_succ_cons, List.drop_zero]
  repeat (go_big_quiet_step (fail))
  refine wpQuiet_nil ?_
  have M9 : Hid (OwnC w8.drew g 108 (magic ++ be32 s.a ++ be32 s.b ++ be32 s.c ++ be32 s.d ++ be32 s.e ++ be32 s.f ++ be32 s.g ++ be32 s.h ++ [])) := by rw [List.append_nil]; exact M8.out.tch (S := []) (Tch.drewN w8 1) (by simp)
  have T9 : Hid (Tch [g] w w8.drew) := T8.out.trans (Tch.drewN w8 1)
  go_wp2_with (refine wpList_append_noughts rfl _ _ rfl g 108 36 100 64 _ rfl (magic ++ be32 s.a ++ be32 s.b ++ be32 s.c ++ be32 s.d ++ be32 s.e ++ be32 s.f ++ be32 s.g ++ be32 s.h ++ []) rfl rfl rfl rfl M9.out (show (100 : Nat) ≤ 108 by omega) (by omega) ?_)
  intro w10 h10
  have M10 : Hid (OwnC w10 g 108 (magic ++ be32 s.a ++ be32 s.b ++ be32 s.c ++ be32 s.d ++ be32 s.e ++ be32 s.f ++ be32 s.g ++ be32 s.h ++ [] ++ List.replicate 64 0)) := h10.out.1
  have T10 : Hid (Tch [g] w w10) := T9.out.trans h10.out.2
  clear h10 M9 T9 d8 M8 T8
  have d9 := (HD.out w10 T10.out).2.2.2.2.2.2.2.2.2
  go_wp2_with (fail)
  refine (app64 g 108 100 (magic ++ be32 s.a ++ be32 s.b ++ be32 s.c ++ be32 s.d ++ be32 s.e ++ be32 s.f ++ be32 s.g ++ be32 s.h ++ [] ++ List.replicate 64 0) (UInt64.ofNat ln) w10 M10.out rfl (by omega)).mono ?_
  rintro e w11 ⟨rfl, h11⟩
  go_wp2
  go_ret2
  exact ⟨rfl, h11.out.1, T10.out.trans h11.out.2⟩
end Go.Proofs.Ytgomodhhomekpaa

/-
  MarshalBinary; words read out of bytes.
-/
namespace Go.Proofs.Ytgomodhhomekpaa
open Go.RowKit Pu Ar
/-- What MarshalBinary hands back. -/
def MBE (w : World) (l : By) (e : Ending) (w' : World) : Prop :=
  ∃ g, e = .returned (.tuple #[.slice (some ⟨g, 0, none⟩) 108 108, .nilIface]) ∧ Hid (OwnC w' g 108 l ∧ Tch [] w w' ∧ w.heap.size ≤ g)
set_option maxRecDepth 100000 in
theorem digMarshal (kt : List UInt32) (b : Nat) (l : By) (w : World) (hD : DigIs w b kt l) (hl : l.length % 64 = 0) (hlen : l.length ≤ 1099511627776) :
    Calls Try.prog 96 #[.pointer (some ⟨b, 0, none⟩)] w (MBE w (marsh (blocks kt init l) l.length)) := by
  obtain ⟨hl0, x, hd, hx⟩ := hD
  rw [hl] at hd
  have hb := hd.row.lt
  have HD := Lib.hid hd
  have HB := Lib.hid hb
  have HL := Lib.hid hlen
  clear hl hlen hd hb hx hl0
  obtain ⟨W, hW⟩ : ∃ W, W = w.alloc (.cells (List.replicate 108 (Value.int .u8 0)).toArray 5) := ⟨_, rfl⟩
  have hmk : (Instr.makeSlice 24 (.int .i64 0) (.int .i64 108)).run Try.prog w = .ok (.slice (some ⟨w.heap.size, 0, none⟩) 0 108) W := by
    rw [hW]; exact run_make_by 0 108 (by omega) (by omega) w
  have OC : Hid (OwnC W w.heap.size 108 []) := by rw [hW]; exact OwnC.new w 108 (by unfold maxLen; omega)
  have TW : Hid (Tch [] w W) := by rw [hW]; exact Tch.alloc _ _
  clear hW
  go_enter Try.func96, Try.ntmps96
  go_wp2_with (fail)
  refine (digAppend b w.heap.size _ x l.length W (HD.out.tch TW.out (by simp)) (by have := HL.out; omega) OC.out (Nat.ne_of_lt HB.out)).mono ?_
  rintro e w' ⟨rfl, h⟩
  go_wp2
  go_ret2
  exact ⟨_, rfl, h.out.1, TW.out.new h.out.2 (by intro i hi; right; rw [List.mem_singleton.1 hi]; exact Nat.le_refl _), Nat.le_refl _⟩
/-- A word out of four bytes. -/
def un32 (l : By) : UInt32 := word (l.getD 0 0) (l.getD 1 0) (l.getD 2 0) (l.getD 3 0)
def un64 (l : By) : UInt64 := (l.getD 0 0).toUInt64 <<< 56 ||| (l.getD 1 0).toUInt64 <<< 48 ||| (l.getD 2 0).toUInt64 <<< 40 ||| (l.getD 3 0).toUInt64 <<< 32 ||| (l.getD 4 0).toUInt64 <<< 24 ||| (l.getD 5 0).toUInt64 <<< 16 ||| (l.getD 6 0).toUInt64 <<< 8 ||| (l.getD 7 0).toUInt64
theorem sor (a b i : Nat) (h : b < 2 ^ i) : a <<< i ||| b = a * 2 ^ i + b := by
  rw [← Nat.shiftLeft_add_eq_or_of_lt h, Nat.shiftLeft_eq]
theorem un_be32 (x : UInt32) (l : By) : un32 (be32 x ++ l) = x := by
  simp only [un32, be32, word, List.cons_append, List.nil_append, List.getD_cons_zero, List.getD_cons_succ]
  apply UInt32.toNat_inj.1
  have hx := Ar.lt32 x
  rw [UInt32.or_assoc, UInt32.or_assoc]
  simp only [UInt32.toNat_or, UInt32.toNat_shiftLeft, UInt8.toNat_toUInt32, UInt32.toNat_toUInt8, UInt32.toNat_shiftRight, Nat.shiftRight_eq_div_pow]
  simp
  generalize x.toNat = n at hx ⊢
  obtain ⟨a0, h0⟩ : ∃ a, a = n / 16777216 % 256 := ⟨_, rfl⟩
  rw [← h0]
  obtain ⟨a1, h1⟩ : ∃ a, a = n / 65536 % 256 := ⟨_, rfl⟩
  rw [← h1]
  obtain ⟨a2, h2⟩ : ∃ a, a = n / 256 % 256 := ⟨_, rfl⟩
  rw [← h2]
  obtain ⟨a3, h3⟩ : ∃ a, a = n % 256 := ⟨_, rfl⟩
  rw [← h3]
  have b0 : a0 < 256 := by omega
  have b1 : a1 < 256 := by omega
  have b2 : a2 < 256 := by omega
  have b3 : a3 < 256 := by omega
  have en : n = a0 * 16777216 + a1 * 65536 + a2 * 256 + a3 := by omega
  clear h0 h1 h2 h3
  rw [show a0 <<< 24 % 4294967296 = a0 <<< 24 by rw [Nat.shiftLeft_eq]; exact Nat.mod_eq_of_lt (by omega)]
  rw [show a1 <<< 16 % 4294967296 = a1 <<< 16 by rw [Nat.shiftLeft_eq]; exact Nat.mod_eq_of_lt (by omega)]
  rw [show a2 <<< 8 % 4294967296 = a2 <<< 8 by rw [Nat.shiftLeft_eq]; exact Nat.mod_eq_of_lt (by omega)]
  rw [sor _ _ 8 (by omega)]
  rw [sor _ _ 16 (by omega)]
  rw [sor _ _ 24 (by omega)]
  omega
theorem un_be64 (x : UInt64) (l : By) : un64 (be64 x ++ l) = x := by
  simp only [un64, be64, List.cons_append, List.nil_append, List.getD_cons_zero, List.getD_cons_succ]
  apply UInt64.toNat_inj.1
  have hx := Ar.lt64 x
  rw [UInt64.or_assoc, UInt64.or_assoc, UInt64.or_assoc, UInt64.or_assoc, UInt64.or_assoc, UInt64.or_assoc]
  simp only [UInt64.toNat_or, UInt64.toNat_shiftLeft, UInt8.toNat_toUInt64, UInt64.toNat_toUInt8, UInt64.toNat_shiftRight, Nat.shiftRight_eq_div_pow]
  simp
  generalize x.toNat = n at hx ⊢
  obtain ⟨a0, h0⟩ : ∃ a, a = n / 72057594037927936 % 256 := ⟨_, rfl⟩
  rw [← h0]
  obtain ⟨a1, h1⟩ : ∃ a, a = n / 281474976710656 % 256 := ⟨_, rfl⟩
  rw [← h1]
  obtain ⟨a2, h2⟩ : ∃ a, a = n / 1099511627776 % 256 := ⟨_, rfl⟩
  rw [← h2]
  obtain ⟨a3, h3⟩ : ∃ a, a = n / 4294967296 % 256 := ⟨_, rfl⟩
  rw [← h3]
  obtain ⟨a4, h4⟩ : ∃ a, a = n / 16777216 % 256 := ⟨_, rfl⟩
  rw [← h4]
  obtain ⟨a5, h5⟩ : ∃ a, a = n / 65536 % 256 := ⟨_, rfl⟩
  rw [← h5]
  obtain ⟨a6, h6⟩ : ∃ a, a = n / 256 % 256 := ⟨_, rfl⟩
  rw [← h6]
  obtain ⟨a7, h7⟩ : ∃ a, a = n % 256 := ⟨_, rfl⟩
  rw [← h7]
  have b0 : a0 < 256 := by omega
  have b1 : a1 < 256 := by omega
  have b2 : a2 < 256 := by omega
  have b3 : a3 < 256 := by omega
  have b4 : a4 < 256 := by omega
  have b5 : a5 < 256 := by omega
  have b6 : a6 < 256 := by omega
  have b7 : a7 < 256 := by omega
  have en : n = a0 * 72057594037927936 + a1 * 281474976710656 + a2 * 1099511627776 + a3 * 4294967296 + a4 * 16777216 + a5 * 65536 + a6 * 256 + a7 := by omega
  clear h0 h1 h2 h3 h4 h5 h6 h7
  rw [show a0 <<< 56 % 18446744073709551616 = a0 <<< 56 by rw [Nat.shiftLeft_eq]; exact Nat.mod_eq_of_lt (by omega)]
  rw [show a1 <<< 48 % 18446744073709551616 = a1 <<< 48 by rw [Nat.shiftLeft_eq]; exact Nat.mod_eq_of_lt (by omega)]
  rw [show a2 <<< 40 % 18446744073709551616 = a2 <<< 40 by rw [Nat.shiftLeft_eq]; exact Nat.mod_eq_of_lt (by omega)]
  rw [show a3 <<< 32 % 18446744073709551616 = a3 <<< 32 by rw [Nat.shiftLeft_eq]; exact Nat.mod_eq_of_lt (by omega)]
  rw [show a4 <<< 24 % 18446744073709551616 = a4 <<< 24 by rw [Nat.shiftLeft_eq]; exact Nat.mod_eq_of_lt (by omega)]
  rw [show a5 <<< 16 % 18446744073709551616 = a5 <<< 16 by rw [Nat.shiftLeft_eq]; exact Nat.mod_eq_of_lt (by omega)]
  rw [show a6 <<< 8 % 18446744073709551616 = a6 <<< 8 by rw [Nat.shiftLeft_eq]; exact Nat.mod_eq_of_lt (by omega)]
  rw [sor _ _ 8 (by omega)]
  rw [sor _ _ 16 (by omega)]
  rw [sor _ _ 24 (by omega)]
  rw [sor _ _ 32 (by omega)]
  rw [sor _ _ 40 (by omega)]
  rw [sor _ _ 48 (by omega)]
  rw [sor _ _ 56 (by omega)]
  omega
end Go.Proofs.Ytgomodhhomekpaa

/-
  Words read out of bytes: beUint32, beUint64, consumeUint32, consumeUint64.
-/
namespace Go.Proofs.Ytgomodhhomekpaa
open Go.RowKit Pu Ar
theorem byte64_wrap (a : UInt8) : IntKind.u64.wrap (ib a) = iq a.toUInt64 := by
  unfold ib; rw [wrap_of64]; simp [iq]
theorem shl64_8 (x : UInt64) (yk : IntKind) : Op.shift .shl .u64 (iq x) yk 8 = pure (.int .u64 (iq (x <<< 8))) := by
  simp only [Op.shift, iq]; simp [IntKind.bits, UInt64.toNat_shiftLeft, Nat.shiftLeft_eq, IntKind.wrap_u64]
theorem shl64_16 (x : UInt64) (yk : IntKind) : Op.shift .shl .u64 (iq x) yk 16 = pure (.int .u64 (iq (x <<< 16))) := by
  simp only [Op.shift, iq]; simp [IntKind.bits, UInt64.toNat_shiftLeft, Nat.shiftLeft_eq, IntKind.wrap_u64]
theorem shl64_24 (x : UInt64) (yk : IntKind) : Op.shift .shl .u64 (iq x) yk 24 = pure (.int .u64 (iq (x <<< 24))) := by
  simp only [Op.shift, iq]; simp [IntKind.bits, UInt64.toNat_shiftLeft, Nat.shiftLeft_eq, IntKind.wrap_u64]
theorem shl64_32 (x : UInt64) (yk : IntKind) : Op.shift .shl .u64 (iq x) yk 32 = pure (.int .u64 (iq (x <<< 32))) := by
  simp only [Op.shift, iq]; simp [IntKind.bits, UInt64.toNat_shiftLeft, Nat.shiftLeft_eq, IntKind.wrap_u64]
theorem shl64_40 (x : UInt64) (yk : IntKind) : Op.shift .shl .u64 (iq x) yk 40 = pure (.int .u64 (iq (x <<< 40))) := by
  simp only [Op.shift, iq]; simp [IntKind.bits, UInt64.toNat_shiftLeft, Nat.shiftLeft_eq, IntKind.wrap_u64]
theorem shl64_48 (x : UInt64) (yk : IntKind) : Op.shift .shl .u64 (iq x) yk 48 = pure (.int .u64 (iq (x <<< 48))) := by
  simp only [Op.shift, iq]; simp [IntKind.bits, UInt64.toNat_shiftLeft, Nat.shiftLeft_eq, IntKind.wrap_u64]
theorem shl64_56 (x : UInt64) (yk : IntKind) : Op.shift .shl .u64 (iq x) yk 56 = pure (.int .u64 (iq (x <<< 56))) := by
  simp only [Op.shift, iq]; simp [IntKind.bits, UInt64.toNat_shiftLeft, Nat.shiftLeft_eq, IntKind.wrap_u64]
theorem or4 (A B C D : UInt32) : A ||| B ||| C ||| D = D ||| C ||| B ||| A := by
  rw [UInt32.or_comm (A ||| B ||| C) D, UInt32.or_comm (A ||| B) C, UInt32.or_comm (A) B, ← UInt32.or_assoc, ← UInt32.or_assoc]
theorem or8 (A B C D E F G H : UInt64) : A ||| B ||| C ||| D ||| E ||| F ||| G ||| H = H ||| G ||| F ||| E ||| D ||| C ||| B ||| A := by
  rw [UInt64.or_comm (A ||| B ||| C ||| D ||| E ||| F ||| G) H, UInt64.or_comm (A ||| B ||| C ||| D ||| E ||| F) G, UInt64.or_comm (A ||| B ||| C ||| D ||| E) F, UInt64.or_comm (A ||| B ||| C ||| D) E, UInt64.or_comm (A ||| B ||| C) D, UInt64.or_comm (A ||| B) C, UInt64.or_comm (A) B, ← UInt64.or_assoc, ← UInt64.or_assoc, ← UInt64.or_assoc, ← UInt64.or_assoc, ← UInt64.or_assoc, ← UInt64.or_assoc]
theorem rd_at {w : World} {b o n c : Nat} {l : By} (h : Rd w (.slice (some ⟨b, o, none⟩) n c) l) (j : Nat) (hj : j < l.length) : w.cell? ⟨b, o + j, none⟩ = some (.int .u8 (ib (l.getD j 0))) := by
  obtain ⟨p, cap, hv, _, _, hr⟩ := h
  simp only [Value.slice.injEq] at hv
  obtain ⟨rfl, _, _⟩ := hv
  rcases hr with hr | ⟨b', o', hp, hr⟩
  · rw [hr] at hj; simp at hj
  · simp only [Option.some.injEq, Addr.mk.injEq] at hp
    obtain ⟨rfl, rfl, -⟩ := hp
    exact hr j (l.getD j 0) (by rw [List.getD_eq_getElem?_getD, List.getElem?_eq_getElem hj]; rfl)
theorem nm_some {w : World} {v : Value} {l : By} (h : Rd w v l) (hn : Nm v) (h0 : 0 < l.length) : ∃ b o c, v = .slice (some ⟨b, o, none⟩) l.length c := by
  obtain ⟨p, cap, rfl, _⟩ := h
  rcases hn with e | ⟨b, o, n, c, e⟩
  · simp only [Value.slice.injEq] at e; omega
  · simp only [Value.slice.injEq] at e
    exact ⟨b, o, cap, by rw [e.1]⟩
set_option maxRecDepth 100000 in
theorem rBe32 (v : Value) (l : By) (w : World) (h : Rd w v l) (hn : Nm v) (hl : 4 ≤ l.length) :
    Calls Try.prog 110 #[v] w fun e w' => e = .returned (.int .u32 (iw (un32 l))) ∧ ∃ n, w' = w.drewN n := by
  obtain ⟨b, o, c, rfl⟩ := nm_some h hn (by omega)
  have c0 : w.cell? ⟨b, o, none⟩ = some (.int .u8 (ib (l.getD 0 0))) := rd_at h 0 (by omega)
  have c1 := rd_at h 1 (by omega)
  have c2 := rd_at h 2 (by omega)
  have c3 := rd_at h 3 (by omega)
  have hu : un32 l = (l.getD 3 0).toUInt32 ||| (l.getD 2 0).toUInt32 <<< 8 ||| (l.getD 1 0).toUInt32 <<< 16 ||| (l.getD 0 0).toUInt32 <<< 24 := by
    unfold un32 word; exact or4 _ _ _ _
  rw [hu]
  clear hu
  generalize l.getD 0 0 = x0 at c0 ⊢
  generalize l.getD 1 0 = x1 at c1 ⊢
  generalize l.getD 2 0 = x2 at c2 ⊢
  generalize l.getD 3 0 = x3 at c3 ⊢
  have hln : (4 : Int) ≤ (l.length : Int) := by omega
  have hln2 : (l.length : Int) ≤ 9223372036854775807 := by have := h.len; unfold maxLen at this; omega
  have e1 := fun x => Ar.shl32_24 x
  have e2 := fun x => Ar.shl32_16 x
  have e3 := fun x => Ar.shl32_8 x
  have e4 := Ar.bits_or32
  have e5 := Ar.byte32_wrap
  clear h hn hl
  go_enter Try.func110, Try.ntmps110
  go_wp2
  go_quiet (fail)
  go_wp2
  go_ret
  exact ⟨rfl, _, rfl⟩
set_option maxHeartbeats 1000000 in
set_option maxRecDepth 100000 in
theorem rBe64 (v : Value) (l : By) (w : World) (h : Rd w v l) (hn : Nm v) (hl : 8 ≤ l.length) :
    Calls Try.prog 111 #[v] w fun e w' => e = .returned (.int .u64 (iq (un64 l))) ∧ ∃ n, w' = w.drewN n := by
  obtain ⟨b, o, c, rfl⟩ := nm_some h hn (by omega)
  have c0 : w.cell? ⟨b, o, none⟩ = some (.int .u8 (ib (l.getD 0 0))) := rd_at h 0 (by omega)
  have c1 := rd_at h 1 (by omega)
  have c2 := rd_at h 2 (by omega)
  have c3 := rd_at h 3 (by omega)
  have c4 := rd_at h 4 (by omega)
  have c5 := rd_at h 5 (by omega)
  have c6 := rd_at h 6 (by omega)
  have c7 := rd_at h 7 (by omega)
  have hu : un64 l = (l.getD 7 0).toUInt64 ||| (l.getD 6 0).toUInt64 <<< 8 ||| (l.getD 5 0).toUInt64 <<< 16 ||| (l.getD 4 0).toUInt64 <<< 24 ||| (l.getD 3 0).toUInt64 <<< 32 ||| (l.getD 2 0).toUInt64 <<< 40 ||| (l.getD 1 0).toUInt64 <<< 48 ||| (l.getD 0 0).toUInt64 <<< 56 := by
    unfold un64; exact or8 _ _ _ _ _ _ _ _
  rw [hu]
  clear hu
  generalize l.getD 0 0 = x0 at c0 ⊢
  generalize l.getD 1 0 = x1 at c1 ⊢
  generalize l.getD 2 0 = x2 at c2 ⊢
  generalize l.getD 3 0 = x3 at c3 ⊢
  generalize l.getD 4 0 = x4 at c4 ⊢
  generalize l.getD 5 0 = x5 at c5 ⊢
  generalize l.getD 6 0 = x6 at c6 ⊢
  generalize l.getD 7 0 = x7 at c7 ⊢
  have hln : (8 : Int) ≤ (l.length : Int) := by omega
  have hln2 : (l.length : Int) ≤ 9223372036854775807 := by have := h.len; unfold maxLen at this; omega
  have e1 := fun x => shl64_8 x
  have e2 := fun x => shl64_16 x
  have e3 := fun x => shl64_24 x
  have e6 := fun x => shl64_32 x
  have e7 := fun x => shl64_40 x
  have e8 := fun x => shl64_48 x
  have e9 := fun x => shl64_56 x
  have e4 := Ar.bits_or64
  have e5 := byte64_wrap
  clear h hn hl
  go_enter Try.func111, Try.ntmps111
  go_wp2
  go_quiet (fail)
  go_wp2
  go_ret
  exact ⟨rfl, _, rfl⟩
end Go.Proofs.Ytgomodhhomekpaa

/-
  consumeUint32, consumeUint64.
-/
namespace Go.Proofs.Ytgomodhhomekpaa
open Go.RowKit Pu Ar
theorem nm_cut {w : World} {v : Value} {l : By} (h : Rd w v l) (hn : Nm v) (k : Nat) (hk : k ≤ l.length) : ∀ w, (Instr.slice 24 v (some (.int .i64 (k : Int))) none none).run Try.prog w = .ok (cut v k) w := by
  obtain ⟨p, cap, rfl, hc, _⟩ := h
  exact fun w => run_cut w _ l.length cap k p rfl hn hk hc
set_option maxRecDepth 100000 in
theorem con32 (v : Value) (l : By) (w : World) (h : Rd w v l) (hn : Nm v) (hl : 4 ≤ l.length) :
    Calls Try.prog 103 #[v] w fun e w' => e = .returned (.tuple #[cut v 4, .int .u32 (iw (un32 l))]) ∧ ∃ n, w' = w.drewN n := by
  have hs : ∀ w, (Instr.slice 24 v (some (.int .i64 4)) none none).run Try.prog w = .ok (cut v 4) w := nm_cut h hn 4 hl
  have HC : Hid (∀ n, Calls Try.prog 110 #[v] (w.drewN n) fun e w' => e = .returned (.int .u32 (iw (un32 l))) ∧ ∃ m, w' = (w.drewN n).drewN m) := fun n => rBe32 v l _ (h.tchNil (Tch.drewN w n)) hn hl
  clear h hn hl
  generalize un32 l = X at HC ⊢
  generalize cut v 4 = V at hs ⊢
  go_enter Try.func103, Try.ntmps103
  go_wp2
  go_quiet ((go_at_call 110; with_reducible apply Calls.quiet_of; exact HC.out _))
  go_wp2
  go_ret2
  exact ⟨rfl, _, rfl⟩
set_option maxRecDepth 100000 in
theorem con64 (v : Value) (l : By) (w : World) (h : Rd w v l) (hn : Nm v) (hl : 8 ≤ l.length) :
    Calls Try.prog 104 #[v] w fun e w' => e = .returned (.tuple #[cut v 8, .int .u64 (iq (un64 l))]) ∧ ∃ n, w' = w.drewN n := by
  have hs : ∀ w, (Instr.slice 24 v (some (.int .i64 8)) none none).run Try.prog w = .ok (cut v 8) w := nm_cut h hn 8 hl
  have HC : Hid (∀ n, Calls Try.prog 111 #[v] (w.drewN n) fun e w' => e = .returned (.int .u64 (iq (un64 l))) ∧ ∃ m, w' = (w.drewN n).drewN m) := fun n => rBe64 v l _ (h.tchNil (Tch.drewN w n)) hn hl
  clear h hn hl
  generalize un64 l = X at HC ⊢
  generalize cut v 8 = V at hs ⊢
  go_enter Try.func104, Try.ntmps104
  go_wp2
  go_quiet ((go_at_call 111; with_reducible apply Calls.quiet_of; exact HC.out _))
  go_wp2
  go_ret2
  exact ⟨rfl, _, rfl⟩
end Go.Proofs.Ytgomodhhomekpaa

/-
  More frames, slot by slot.
-/
namespace Go.Proofs.Ytgomodhhomekpaa
open Go.RowKit
set_option maxRecDepth 100000 in
theorem lit137 (a : Act) (h : Frm 137 a) : a = ⟨#[G a 0, G a 1, G a 2, G a 3, G a 4, G a 5, G a 6, G a 7, G a 8, G a 9, G a 10, G a 11, G a 12, G a 13, G a 14, G a 15, G a 16, G a 17, G a 18, G a 19, G a 20, G a 21, G a 22, G a 23, G a 24, G a 25, G a 26, G a 27, G a 28, G a 29, G a 30, G a 31, G a 32, G a 33, G a 34, G a 35, G a 36, G a 37, G a 38, G a 39, G a 40, G a 41, G a 42, G a 43, G a 44, G a 45, G a 46, G a 47, G a 48, G a 49, G a 50, G a 51, G a 52, G a 53, G a 54, G a 55, G a 56, G a 57, G a 58, G a 59, G a 60, G a 61, G a 62, G a 63, G a 64, G a 65, G a 66, G a 67, G a 68, G a 69, G a 70, G a 71, G a 72, G a 73, G a 74, G a 75, G a 76, G a 77, G a 78, G a 79, G a 80, G a 81, G a 82, G a 83, G a 84, G a 85, G a 86, G a 87, G a 88, G a 89, G a 90, G a 91, G a 92, G a 93, G a 94, G a 95, G a 96, G a 97, G a 98, G a 99, G a 100, G a 101, G a 102, G a 103, G a 104, G a 105, G a 106, G a 107, G a 108, G a 109, G a 110, G a 111, G a 112, G a 113, G a 114, G a 115, G a 116, G a 117, G a 118, G a 119, G a 120, G a 121, G a 122, G a 123, G a 124, G a 125, G a 126, G a 127, G a 128, G a 129, G a 130, G a 131, G a 132, G a 133, G a 134, G a 135, G a 136], []⟩ := lit_of a h
set_option maxRecDepth 100000 in
theorem lit25 (a : Act) (h : Frm 25 a) : a = ⟨#[G a 0, G a 1, G a 2, G a 3, G a 4, G a 5, G a 6, G a 7, G a 8, G a 9, G a 10, G a 11, G a 12, G a 13, G a 14, G a 15, G a 16, G a 17, G a 18, G a 19, G a 20, G a 21, G a 22, G a 23, G a 24], []⟩ := lit_of a h
set_option maxRecDepth 100000 in
theorem lit18 (a : Act) (h : Frm 18 a) : a = ⟨#[G a 0, G a 1, G a 2, G a 3, G a 4, G a 5, G a 6, G a 7, G a 8, G a 9, G a 10, G a 11, G a 12, G a 13, G a 14, G a 15, G a 16, G a 17], []⟩ := lit_of a h
set_option maxRecDepth 100000 in
theorem lit22 (a : Act) (h : Frm 22 a) : a = ⟨#[G a 0, G a 1, G a 2, G a 3, G a 4, G a 5, G a 6, G a 7, G a 8, G a 9, G a 10, G a 11, G a 12, G a 13, G a 14, G a 15, G a 16, G a 17, G a 18, G a 19, G a 20, G a 21], []⟩ := lit_of a h
end Go.Proofs.Ytgomodhhomekpaa

/-
  UnmarshalBinary: the words.
-/
namespace Go.Proofs.Ytgomodhhomekpaa
open Go.RowKit Pu Ar
def UMP (w : World) (b : Nat) (s : S8) (x : By) (nx ln : Nat) (v : Value) (a' : Act) (w' : World) : Prop :=
  Frm 137 a' ∧ G a' 0 = .pointer (some ⟨b, 0, none⟩) ∧ G a' 1 = v ∧ Hid (Dig w' b s x nx ln ∧ Tch [b] w w')
set_option maxRecDepth 100000 in
theorem um0 (a : Act) (w : World) (h : Frm 137 a) (Q : Exit → Act → World → Prop) (b : Nat) (s : S8) (x : By) (nx ln : Nat) (v : Value) (l : By) (y : UInt32) (hD : Dig w b s x nx ln) (hv : Rd w v l) (hn : Nm v) (hl : 4 ≤ l.length) (hy : un32 l = y)
    (g0 : G a 0 = .pointer (some ⟨b, 0, none⟩)) (g1 : G a 1 = v) (hQ : ∀ a' w', UMP w b ⟨y, s.b, s.c, s.d, s.e, s.f, s.g, s.h⟩ x nx ln (cut v 4) a' w' → Q .normal a' w') :
    (part (bodyOf Try.f99) [true, true, true, true, false]).wp Try.prog Q a w := by
  have cW : w.cell? ⟨b, 0, none⟩ = some (.int .u32 (iw s.a)) := by rw [hD.row.cell]; rfl
  have fW := hD.row.free 0
  have c74 := hD.is224
  have HC : Hid (Calls Try.prog 103 #[v] w.drew fun e w' => e = .returned (.tuple #[cut v 4, .int .u32 (iw y)]) ∧ ∃ n, w' = w.drew.drewN n) := by rw [← hy]; exact con32 v l w.drew (hv.tchNil (Tch.drewN w 1)) hn hl
  have HD := Lib.hid hD
  conv => arg 2; whnf
  rw [lit137 a h]
  simp only [g0, g1]
  clear h g0 g1 hD hv hn hl hy
  generalize cut v 4 = V at HC hQ
  go_region_held3 (fun w' => w'.cell? ⟨b, 74, none⟩ = some (.bool false)) (first | exact c74 | (rw [World.cell?_setCell_other _ _ _ _ (by intro h; simp only [Addr.mk.injEq] at h; omega)]; exact c74)) (first | (go_at_call 103; refine HC.out.mono ?_; rintro e w' ⟨rfl, n, rfl⟩) | fail)
  all_goals
    go_wp2
    refine ⟨⟨rfl, rfl⟩, rfl, rfl, ⟨?_, HD.out.len⟩, ?_⟩
    · exact (show Row (w.drewN (1 + n)) b 104 (digCells s x nx ln) from HD.out.row).set 0 (vw y)
    · exact (Tch.drewN (S := [b]) w (1 + n)).trans (Tch.setCell _ ⟨b, 0, none⟩ _ (by simp))
set_option maxRecDepth 100000 in
theorem um1 (a : Act) (w : World) (h : Frm 137 a) (Q : Exit → Act → World → Prop) (b : Nat) (s : S8) (x : By) (nx ln : Nat) (v : Value) (l : By) (y : UInt32) (hD : Dig w b s x nx ln) (hv : Rd w v l) (hn : Nm v) (hl : 4 ≤ l.length) (hy : un32 l = y)
    (g0 : G a 0 = .pointer (some ⟨b, 0, none⟩)) (g1 : G a 1 = v) (hQ : ∀ a' w', UMP w b ⟨s.a, y, s.c, s.d, s.e, s.f, s.g, s.h⟩ x nx ln (cut v 4) a' w' → Q .normal a' w') :
    (part (bodyOf Try.f99) [true, true, true, true, true, false]).wp Try.prog Q a w := by
  have cW : w.cell? ⟨b, 1, none⟩ = some (.int .u32 (iw s.b)) := by rw [hD.row.cell]; rfl
  have fW := hD.row.free 1
  have c74 := hD.is224
  have HC : Hid (Calls Try.prog 103 #[v] w.drew fun e w' => e = .returned (.tuple #[cut v 4, .int .u32 (iw y)]) ∧ ∃ n, w' = w.drew.drewN n) := by rw [← hy]; exact con32 v l w.drew (hv.tchNil (Tch.drewN w 1)) hn hl
  have HD := Lib.hid hD
  conv => arg 2; whnf
  rw [lit137 a h]
  simp only [g0, g1]
  clear h g0 g1 hD hv hn hl hy
  generalize cut v 4 = V at HC hQ
  go_region_held3 (fun w' => w'.cell? ⟨b, 74, none⟩ = some (.bool false)) (first | exact c74 | (rw [World.cell?_setCell_other _ _ _ _ (by intro h; simp only [Addr.mk.injEq] at h; omega)]; exact c74)) (first | (go_at_call 103; refine HC.out.mono ?_; rintro e w' ⟨rfl, n, rfl⟩) | fail)
  all_goals
    go_wp2
    refine ⟨⟨rfl, rfl⟩, rfl, rfl, ⟨?_, HD.out.len⟩, ?_⟩
    · exact (show Row (w.drewN (1 + n)) b 104 (digCells s x nx ln) from HD.out.row).set 1 (vw y)
    · exact (Tch.drewN (S := [b]) w (1 + n)).trans (Tch.setCell _ ⟨b, 1, none⟩ _ (by simp))
set_option maxRecDepth 100000 in
theorem um2 (a : Act) (w : World) (h : Frm 137 a) (Q : Exit → Act → World → Prop) (b : Nat) (s : S8) (x : By) (nx ln : Nat) (v : Value) (l : By) (y : UInt32) (hD : Dig w b s x nx ln) (hv : Rd w v l) (hn : Nm v) (hl : 4 ≤ l.length) (hy : un32 l = y)
    (g0 : G a 0 = .pointer (some ⟨b, 0, none⟩)) (g1 : G a 1 = v) (hQ : ∀ a' w', UMP w b ⟨s.a, s.b, y, s.d, s.e, s.f, s.g, s.h⟩ x nx ln (cut v 4) a' w' → Q .normal a' w') :
    (part (bodyOf Try.f99) [true, true, true, true, true, true, false]).wp Try.prog Q a w := by
  have cW : w.cell? ⟨b, 2, none⟩ = some (.int .u32 (iw s.c)) := by rw [hD.row.cell]; rfl
  have fW := hD.row.free 2
  have c74 := hD.is224
  have HC : Hid (Calls Try.prog 103 #[v] w.drew fun e w' => e = .returned (.tuple #[cut v 4, .int .u32 (iw y)]) ∧ ∃ n, w' = w.drew.drewN n) := by rw [← hy]; exact con32 v l w.drew (hv.tchNil (Tch.drewN w 1)) hn hl
  have HD := Lib.hid hD
  conv => arg 2; whnf
  rw [lit137 a h]
  simp only [g0, g1]
  clear h g0 g1 hD hv hn hl hy
  generalize cut v 4 = V at HC hQ
  go_region_held3 (fun w' => w'.cell? ⟨b, 74, none⟩ = some (.bool false)) (first | exact c74 | (rw [World.cell?_setCell_other _ _ _ _ (by intro h; simp only [Addr.mk.injEq] at h; omega)]; exact c74)) (first | (go_at_call 103; refine HC.out.mono ?_; rintro e w' ⟨rfl, n, rfl⟩) | fail)
  all_goals
    go_wp2
    refine ⟨⟨rfl, rfl⟩, rfl, rfl, ⟨?_, HD.out.len⟩, ?_⟩
    · exact (show Row (w.drewN (1 + n)) b 104 (digCells s x nx ln) from HD.out.row).set 2 (vw y)
    · exact (Tch.drewN (S := [b]) w (1 + n)).trans (Tch.setCell _ ⟨b, 2, none⟩ _ (by simp))
set_option maxRecDepth 100000 in
theorem um3 (a : Act) (w : World) (h : Frm 137 a) (Q : Exit → Act → World → Prop) (b : Nat) (s : S8) (x : By) (nx ln : Nat) (v : Value) (l : By) (y : UInt32) (hD : Dig w b s x nx ln) (hv : Rd w v l) (hn : Nm v) (hl : 4 ≤ l.length) (hy : un32 l = y)
    (g0 : G a 0 = .pointer (some ⟨b, 0, none⟩)) (g1 : G a 1 = v) (hQ : ∀ a' w', UMP w b ⟨s.a, s.b, s.c, y, s.e, s.f, s.g, s.h⟩ x nx ln (cut v 4) a' w' → Q .normal a' w') :
    (part (bodyOf Try.f99) [true, true, true, true, true, true, true, false]).wp Try.prog Q a w := by
  have cW : w.cell? ⟨b, 3, none⟩ = some (.int .u32 (iw s.d)) := by rw [hD.row.cell]; rfl
  have fW := hD.row.free 3
  have c74 := hD.is224
  have HC : Hid (Calls Try.prog 103 #[v] w.drew fun e w' => e = .returned (.tuple #[cut v 4, .int .u32 (iw y)]) ∧ ∃ n, w' = w.drew.drewN n) := by rw [← hy]; exact con32 v l w.drew (hv.tchNil (Tch.drewN w 1)) hn hl
  have HD := Lib.hid hD
  conv => arg 2; whnf
  rw [lit137 a h]
  simp only [g0, g1]
  clear h g0 g1 hD hv hn hl hy
  generalize cut v 4 = V at HC hQ
  go_region_held3 (fun w' => w'.cell? ⟨b, 74, none⟩ = some (.bool false)) (first | exact c74 | (rw [World.cell?_setCell_other _ _ _ _ (by intro h; simp only [Addr.mk.injEq] at h; omega)]; exact c74)) (first | (go_at_call 103; refine HC.out.mono ?_; rintro e w' ⟨rfl, n, rfl⟩) | fail)
  all_goals
    go_wp2
    refine ⟨⟨rfl, rfl⟩, rfl, rfl, ⟨?_, HD.out.len⟩, ?_⟩
    · exact (show Row (w.drewN (1 + n)) b 104 (digCells s x nx ln) from HD.out.row).set 3 (vw y)
    · exact (Tch.drewN (S := [b]) w (1 + n)).trans (Tch.setCell _ ⟨b, 3, none⟩ _ (by simp))
set_option maxRecDepth 100000 in
theorem um4 (a : Act) (w : World) (h : Frm 137 a) (Q : Exit → Act → World → Prop) (b : Nat) (s : S8) (x : By) (nx ln : Nat) (v : Value) (l : By) (y : UInt32) (hD : Dig w b s x nx ln) (hv : Rd w v l) (hn : Nm v) (hl : 4 ≤ l.length) (hy : un32 l = y)
    (g0 : G a 0 = .pointer (some ⟨b, 0, none⟩)) (g1 : G a 1 = v) (hQ : ∀ a' w', UMP w b ⟨s.a, s.b, s.c, s.d, y, s.f, s.g, s.h⟩ x nx ln (cut v 4) a' w' → Q .normal a' w') :
    (part (bodyOf Try.f99) [true, true, true, true, true, true, true, true, false]).wp Try.prog Q a w := by
  have cW : w.cell? ⟨b, 4, none⟩ = some (.int .u32 (iw s.e)) := by rw [hD.row.cell]; rfl
  have fW := hD.row.free 4
  have c74 := hD.is224
  have HC : Hid (Calls Try.prog 103 #[v] w.drew fun e w' => e = .returned (.tuple #[cut v 4, .int .u32 (iw y)]) ∧ ∃ n, w' = w.drew.drewN n) := by rw [← hy]; exact con32 v l w.drew (hv.tchNil (Tch.drewN w 1)) hn hl
  have HD := Lib.hid hD
  conv => arg 2; whnf
  rw [lit137 a h]
  simp only [g0, g1]
  clear h g0 g1 hD hv hn hl hy
  generalize cut v 4 = V at HC hQ
  go_region_held3 (fun w' => w'.cell? ⟨b, 74, none⟩ = some (.bool false)) (first | exact c74 | (rw [World.cell?_setCell_other _ _ _ _ (by intro h; simp only [Addr.mk.injEq] at h; omega)]; exact c74)) (first | (go_at_call 103; refine HC.out.mono ?_; rintro e w' ⟨rfl, n, rfl⟩) | fail)
  all_goals
    go_wp2
    refine ⟨⟨rfl, rfl⟩, rfl, rfl, ⟨?_, HD.out.len⟩, ?_⟩
    · exact (show Row (w.drewN (1 + n)) b 104 (digCells s x nx ln) from HD.out.row).set 4 (vw y)
    · exact (Tch.drewN (S := [b]) w (1 + n)).trans (Tch.setCell _ ⟨b, 4, none⟩ _ (by simp))
set_option maxRecDepth 100000 in
theorem um5 (a : Act) (w : World) (h : Frm 137 a) (Q : Exit → Act → World → Prop) (b : Nat) (s : S8) (x : By) (nx ln : Nat) (v : Value) (l : By) (y : UInt32) (hD : Dig w b s x nx ln) (hv : Rd w v l) (hn : Nm v) (hl : 4 ≤ l.length) (hy : un32 l = y)
    (g0 : G a 0 = .pointer (some ⟨b, 0, none⟩)) (g1 : G a 1 = v) (hQ : ∀ a' w', UMP w b ⟨s.a, s.b, s.c, s.d, s.e, y, s.g, s.h⟩ x nx ln (cut v 4) a' w' → Q .normal a' w') :
    (part (bodyOf Try.f99) [true, true, true, true, true, true, true, true, true, false]).wp Try.prog Q a w := by
  have cW : w.cell? ⟨b, 5, none⟩ = some (.int .u32 (iw s.f)) := by rw [hD.row.cell]; rfl
  have fW := hD.row.free 5
  have c74 := hD.is224
  have HC : Hid (Calls Try.prog 103 #[v] w.drew fun e w' => e = .returned (.tuple #[cut v 4, .int .u32 (iw y)]) ∧ ∃ n, w' = w.drew.drewN n) := by rw [← hy]; exact con32 v l w.drew (hv.tchNil (Tch.drewN w 1)) hn hl
  have HD := Lib.hid hD
  conv => arg 2; whnf
  rw [lit137 a h]
  simp only [g0, g1]
  clear h g0 g1 hD hv hn hl hy
  generalize cut v 4 = V at HC hQ
  go_region_held3 (fun w' => w'.cell? ⟨b, 74, none⟩ = some (.bool false)) (first | exact c74 | (rw [World.cell?_setCell_other _ _ _ _ (by intro h; simp only [Addr.mk.injEq] at h; omega)]; exact c74)) (first | (go_at_call 103; refine HC.out.mono ?_; rintro e w' ⟨rfl, n, rfl⟩) | fail)
  all_goals
    go_wp2
    refine ⟨⟨rfl, rfl⟩, rfl, rfl, ⟨?_, HD.out.len⟩, ?_⟩
    · exact (show Row (w.drewN (1 + n)) b 104 (digCells s x nx ln) from HD.out.row).set 5 (vw y)
    · exact (Tch.drewN (S := [b]) w (1 + n)).trans (Tch.setCell _ ⟨b, 5, none⟩ _ (by simp))
set_option maxRecDepth 100000 in
theorem um6 (a : Act) (w : World) (h : Frm 137 a) (Q : Exit → Act → World → Prop) (b : Nat) (s : S8) (x : By) (nx ln : Nat) (v : Value) (l : By) (y : UInt32) (hD : Dig w b s x nx ln) (hv : Rd w v l) (hn : Nm v) (hl : 4 ≤ l.length) (hy : un32 l = y)
    (g0 : G a 0 = .pointer (some ⟨b, 0, none⟩)) (g1 : G a 1 = v) (hQ : ∀ a' w', UMP w b ⟨s.a, s.b, s.c, s.d, s.e, s.f, y, s.h⟩ x nx ln (cut v 4) a' w' → Q .normal a' w') :
    (part (bodyOf Try.f99) [true, true, true, true, true, true, true, true, true, true, false]).wp Try.prog Q a w := by
  have cW : w.cell? ⟨b, 6, none⟩ = some (.int .u32 (iw s.g)) := by rw [hD.row.cell]; rfl
  have fW := hD.row.free 6
  have c74 := hD.is224
  have HC : Hid (Calls Try.prog 103 #[v] w.drew fun e w' => e = .returned (.tuple #[cut v 4, .int .u32 (iw y)]) ∧ ∃ n, w' = w.drew.drewN n) := by rw [← hy]; exact con32 v l w.drew (hv.tchNil (Tch.drewN w 1)) hn hl
  have HD := Lib.hid hD
  conv => arg 2; whnf
  rw [lit137 a h]
  simp only [g0, g1]
  clear h g0 g1 hD hv hn hl hy
  generalize cut v 4 = V at HC hQ
  go_region_held3 (fun w' => w'.cell? ⟨b, 74, none⟩ = some (.bool false)) (first | exact c74 | (rw [World.cell?_setCell_other _ _ _ _ (by intro h; simp only [Addr.mk.injEq] at h; omega)]; exact c74)) (first | (go_at_call 103; refine HC.out.mono ?_; rintro e w' ⟨rfl, n, rfl⟩) | fail)
  all_goals
    go_wp2
    refine ⟨⟨rfl, rfl⟩, rfl, rfl, ⟨?_, HD.out.len⟩, ?_⟩
    · exact (show Row (w.drewN (1 + n)) b 104 (digCells s x nx ln) from HD.out.row).set 6 (vw y)
    · exact (Tch.drewN (S := [b]) w (1 + n)).trans (Tch.setCell _ ⟨b, 6, none⟩ _ (by simp))
set_option maxRecDepth 100000 in
theorem um7 (a : Act) (w : World) (h : Frm 137 a) (Q : Exit → Act → World → Prop) (b : Nat) (s : S8) (x : By) (nx ln : Nat) (v : Value) (l : By) (y : UInt32) (hD : Dig w b s x nx ln) (hv : Rd w v l) (hn : Nm v) (hl : 4 ≤ l.length) (hy : un32 l = y)
    (g0 : G a 0 = .pointer (some ⟨b, 0, none⟩)) (g1 : G a 1 = v) (hQ : ∀ a' w', UMP w b ⟨s.a, s.b, s.c, s.d, s.e, s.f, s.g, y⟩ x nx ln (cut v 4) a' w' → Q .normal a' w') :
    (part (bodyOf Try.f99) [true, true, true, true, true, true, true, true, true, true, true, false]).wp Try.prog Q a w := by
  have cW : w.cell? ⟨b, 7, none⟩ = some (.int .u32 (iw s.h)) := by rw [hD.row.cell]; rfl
  have fW := hD.row.free 7
  have c74 := hD.is224
  have HC : Hid (Calls Try.prog 103 #[v] w.drew fun e w' => e = .returned (.tuple #[cut v 4, .int .u32 (iw y)]) ∧ ∃ n, w' = w.drew.drewN n) := by rw [← hy]; exact con32 v l w.drew (hv.tchNil (Tch.drewN w 1)) hn hl
  have HD := Lib.hid hD
  conv => arg 2; whnf
  rw [lit137 a h]
  simp only [g0, g1]
  clear h g0 g1 hD hv hn hl hy
  generalize cut v 4 = V at HC hQ
  go_region_held3 (fun w' => w'.cell? ⟨b, 74, none⟩ = some (.bool false)) (first | exact c74 | (rw [World.cell?_setCell_other _ _ _ _ (by intro h; simp only [Addr.mk.injEq] at h; omega)]; exact c74)) (first | (go_at_call 103; refine HC.out.mono ?_; rintro e w' ⟨rfl, n, rfl⟩) | fail)
  all_goals
    go_wp2
    refine ⟨⟨rfl, rfl⟩, rfl, rfl, ⟨?_, HD.out.len⟩, ?_⟩
    · exact (show Row (w.drewN (1 + n)) b 104 (digCells s x nx ln) from HD.out.row).set 7 (vw y)
    · exact (Tch.drewN (S := [b]) w (1 + n)).trans (Tch.setCell _ ⟨b, 7, none⟩ _ (by simp))
end Go.Proofs.Ytgomodhhomekpaa

/-
  UnmarshalBinary: what MarshalBinary has written is read back.
-/
namespace Go.Proofs.Ytgomodhhomekpaa
open Go.RowKit Pu Ar
/-- Bytes that may be read on, away from block b. -/
def Ats (w : World) (b : Nat) (v : Value) (l : By) : Prop := Rd w v l ∧ Nm v ∧ Off [b] v
theorem Ats.cut {w : World} {b : Nat} {v : Value} {l r : By} {k : Nat} (h : Ats w b v l) (hk : k ≤ l.length) (hr : l.drop k = r) : Ats w b (cut v k) r := by
  obtain ⟨h1, h2, h3⟩ := cut_rd h.1 h.2.1 k hk
  rw [hr] at h1
  exact ⟨h1, h2, h3 _ h.2.2⟩
theorem Ats.tch {w w' : World} {b : Nat} {v : Value} {l : By} (h : Ats w b v l) (k : Tch [b] w w') : Ats w' b v l := ⟨h.1.tch k h.2.2, h.2.1, h.2.2⟩
theorem str_magic : strOf magic = ⟨#[115, 104, 97, 3]⟩ := by
  apply ByteArray.ext
  apply Array.ext'
  exact strOf_list magic
theorem marsh_eq (s : S8) (ln : Nat) : marsh s ln = magic ++ (be32 s.a ++ (be32 s.b ++ (be32 s.c ++ (be32 s.d ++ (be32 s.e ++ (be32 s.f ++ (be32 s.g ++ (be32 s.h ++ (List.replicate 64 0 ++ be64 (UInt64.ofNat ln)))))))))) := by simp only [marsh, List.append_assoc, List.nil_append]
theorem digCells_put (s : S8) (x p : By) (nx ln : Nat) (hx : x.length = 64) : (digCells s x nx ln).take 8 ++ (p.map vb ++ (digCells s x nx ln).drop (8 + 64)) = digCells s p nx ln := by
  unfold digCells
  have e8 : ([vw s.a, vw s.b, vw s.c, vw s.d, vw s.e, vw s.f, vw s.g, vw s.h] : List Value).length = 8 := rfl
  generalize ([vw s.a, vw s.b, vw s.c, vw s.d, vw s.e, vw s.f, vw s.g, vw s.h] : List Value) = H at e8 ⊢
  generalize ([.int .i64 (nx : Int), .int .u64 (ln : Int), .bool false] : List Value) = T
  rw [List.append_assoc, List.take_append_of_le_length (by omega), List.take_of_length_le (by omega), List.drop_append, List.drop_of_length_le (l := H) (by omega), List.nil_append, e8,
    List.drop_append, List.drop_of_length_le (l := x.map vb) (by simp; omega), List.nil_append]
  simp [hx]
set_option maxHeartbeats 1000000 in
set_option maxRecDepth 100000 in
theorem digUnmarshal (b : Nat) (s0 : S8) (x0 : By) (nx0 ln0 : Nat) (v : Value) (s : S8) (ln : Nat) (w : World) (hD : Dig w b s0 x0 nx0 ln0) (hv : Rd w v (marsh s ln)) (hn : Nm v) (hoff : Off [b] v) (hln : ln < 18446744073709551616) (hmod : ln % 64 = 0) :
    Calls Try.prog 99 #[.pointer (some ⟨b, 0, none⟩), v] w fun e w' => e = .returned .nilIface ∧ Hid (Dig w' b s (List.replicate 64 0) 0 ln ∧ Tch [b] w w') := by
  have c74 := hD.is224
  have A : Ats w b v (marsh s ln) := ⟨hv, hn, hoff⟩
  obtain ⟨q, c, rfl⟩ := rd_ex hv
  rw [marsh_length] at hv A hn ⊢
  have hc : 108 ≤ c := by obtain ⟨_, _, e, h, _⟩ := hv; simp only [Value.slice.injEq] at e; obtain ⟨_, _, rfl⟩ := e; exact h
  have hs1 : ∀ w, (Instr.slice 24 (.slice q 108 c) none (some (.int .i64 4)) none).run Try.prog w = .ok (upto (.slice q 108 c) 4) w := fun w => run_upto w _ 108 c 4 q rfl hn (by omega)
  have hs2 : ∀ w, (Instr.slice 24 (.slice q 108 c) (some (.int .i64 4)) none none).run Try.prog w = .ok (cut (.slice q 108 c) 4) w := fun w => run_cut w _ 108 c 4 q rfl hn (by omega) (by omega)
  have hs3 : (convert 24 9 (upto (.slice q 108 c) 4)).run Try.prog w = .ok (.string ⟨#[115, 104, 97, 3]⟩) w := by
    have := run_string_of (upto_rd hv 4 (by rw [marsh_length]; omega))
    rwa [show (marsh s ln).take 4 = magic from rfl, str_magic] at this
  obtain ⟨u, hu⟩ : ∃ u, u = upto (.slice q 108 c) 4 := ⟨_, rfl⟩
  rw [← hu] at hs1 hs3
  have A0 : Hid (Ats w b (cut (.slice q 108 c) 4) (be32 s.a ++ (be32 s.b ++ (be32 s.c ++ (be32 s.d ++ (be32 s.e ++ (be32 s.f ++ (be32 s.g ++ (be32 s.h ++ (List.replicate 64 0 ++ be64 (UInt64.ofNat ln))))))))))) := A.cut (by rw [marsh_length]; omega) (by rw [marsh_eq]; rfl)
  have HD := Lib.hid hD
  have HLN := Lib.hid hln
  have HMOD := Lib.hid hmod
  have hnot : (Op.unary .not (.bool false)) = pure (.bool true) := rfl
  clear hD hv hn hoff hln hmod A hu hc
  obtain ⟨v0, hv0⟩ : ∃ v0, v0 = cut (.slice q 108 c) 4 := ⟨_, rfl⟩
  rw [← hv0] at hs2 A0
  clear hv0
  go_enter Try.func99, Try.ntmps99
  refine wp_seq_k (fun K0 k0 => ?_)
  have J0 := Lib.hid k0
  clear k0
  go_wp2
  refine J0.out _ _ (wp_seq_k (fun K1 k1 => ?_))
  have J1 := Lib.hid k1
  clear k1
  go_wp2
  refine J1.out _ _ (wp_seq_k (fun K2 k2 => ?_))
  have J2 := Lib.hid k2
  clear k2
  go_wp2
  refine J2.out _ _ (wp_seq_k (fun K3 k3 => ?_))
  have J3 := Lib.hid k3
  clear k3
  go_wp2
  refine J3.out _ _ (wp_seq_k (fun L0 l0 => ?_))
  have M0 := Lib.hid l0
  clear l0 c74 hs1 hs2 hs3 J0 J1 J2 J3
  have T0 : Hid (Tch [b] w w) := Tch.refl _ _
  have D0 := HD
  refine um0 _ w ⟨rfl, rfl⟩ _ b s0 x0 nx0 ln0 v0 (be32 s.a ++ (be32 s.b ++ (be32 s.c ++ (be32 s.d ++ (be32 s.e ++ (be32 s.f ++ (be32 s.g ++ (be32 s.h ++ (List.replicate 64 0 ++ be64 (UInt64.ofNat ln)))))))))) s.a D0.out A0.out.1 A0.out.2.1 (by show (4 : Nat) ≤ 104; omega) (un_be32 _ _) rfl rfl ?_
  rintro a1 w1 ⟨f1, p1, q1, h1⟩
  have D1 : Hid (Dig w1 b ⟨s.a, s0.b, s0.c, s0.d, s0.e, s0.f, s0.g, s0.h⟩ x0 nx0 ln0) := h1.out.1
  have T1 : Hid (Tch [b] w w1) := T0.out.trans h1.out.2
  have A1 : Hid (Ats w1 b (cut v0 4) (be32 s.b ++ (be32 s.c ++ (be32 s.d ++ (be32 s.e ++ (be32 s.f ++ (be32 s.g ++ (be32 s.h ++ (List.replicate 64 0 ++ be64 (UInt64.ofNat ln)))))))))) := (A0.out.cut (by show (4 : Nat) ≤ 104; omega) rfl).tch h1.out.2
  generalize cut v0 4 = v1 at q1 A1
  clear h1 D0 T0 A0
  refine M0.out _ _ (wp_seq_k (fun L1 l1 => ?_))
  have M1 := Lib.hid l1
  clear l1 M0
  refine um1 a1 w1 f1 _ b ⟨s.a, s0.b, s0.c, s0.d, s0.e, s0.f, s0.g, s0.h⟩ x0 nx0 ln0 v1 (be32 s.b ++ (be32 s.c ++ (be32 s.d ++ (be32 s.e ++ (be32 s.f ++ (be32 s.g ++ (be32 s.h ++ (List.replicate 64 0 ++ be64 (UInt64.ofNat ln))))))))) s.b D1.out A1.out.1 A1.out.2.1 (by show (4 : Nat) ≤ 100; omega) (un_be32 _ _) p1 q1 ?_
  rintro a2 w2 ⟨f2, p2, q2, h2⟩
  have D2 : Hid (Dig w2 b ⟨s.a, s.b, s0.c, s0.d, s0.e, s0.f, s0.g, s0.h⟩ x0 nx0 ln0) := h2.out.1
  have T2 : Hid (Tch [b] w w2) := T1.out.trans h2.out.2
  have A2 : Hid (Ats w2 b (cut v1 4) (be32 s.c ++ (be32 s.d ++ (be32 s.e ++ (be32 s.f ++ (be32 s.g ++ (be32 s.h ++ (List.replicate 64 0 ++ be64 (UInt64.ofNat ln))))))))) := (A1.out.cut (by show (4 : Nat) ≤ 100; omega) rfl).tch h2.out.2
  generalize cut v1 4 = v2 at q2 A2
  clear h2 D1 T1 A1
  refine M1.out _ _ (wp_seq_k (fun L2 l2 => ?_))
  have M2 := Lib.hid l2
  clear l2 M1
  refine um2 a2 w2 f2 _ b ⟨s.a, s.b, s0.c, s0.d, s0.e, s0.f, s0.g, s0.h⟩ x0 nx0 ln0 v2 (be32 s.c ++ (be32 s.d ++ (be32 s.e ++ (be32 s.f ++ (be32 s.g ++ (be32 s.h ++ (List.replicate 64 0 ++ be64 (UInt64.ofNat ln)))))))) s.c D2.out A2.out.1 A2.out.2.1 (by show (4 : Nat) ≤ 96; omega) (un_be32 _ _) p2 q2 ?_
  rintro a3 w3 ⟨f3, p3, q3, h3⟩
  have D3 : Hid (Dig w3 b ⟨s.a, s.b, s.c, s0.d, s0.e, s0.f, s0.g, s0.h⟩ x0 nx0 ln0) := h3.out.1
  have T3 : Hid (Tch [b] w w3) := T2.out.trans h3.out.2
  have A3 : Hid (Ats w3 b (cut v2 4) (be32 s.d ++ (be32 s.e ++ (be32 s.f ++ (be32 s.g ++ (be32 s.h ++ (List.replicate 64 0 ++ be64 (UInt64.ofNat ln)))))))) := (A2.out.cut (by show (4 : Nat) ≤ 96; omega) rfl).tch h3.out.2
  generalize cut v2 4 = v3 at q3 A3
  clear h3 D2 T2 A2
  refine M2.out _ _ (wp_seq_k (fun L3 l3 => ?_))
  have M3 := Lib.hid l3
  clear l3 M2
  refine um3 a3 w3 f3 _ b ⟨s.a, s.b, s.c, s0.d, s0.e, s0.f, s0.g, s0.h⟩ x0 nx0 ln0 v3 (be32 s.d ++ (be32 s.e ++ (be32 s.f ++ (be32 s.g ++ (be32 s.h ++ (List.replicate 64 0 ++ be64 (UInt64.ofNat ln))))))) s.d D3.out A3.out.1 A3.out.2.1 (by show (4 : Nat) ≤ 92; omega) (un_be32 _ _) p3 q3 ?_
  rintro a4 w4 ⟨f4, p4, q4, h4⟩
  have D4 : Hid (Dig w4 b ⟨s.a, s.b, s.c, s.d, s0.e, s0.f, s0.g, s0.h⟩ x0 nx0 ln0) := h4.out.1
  have T4 : Hid (Tch [b] w w4) := T3.out.trans h4.out.2
  have A4 : Hid (Ats w4 b (cut v3 4) (be32 s.e ++ (be32 s.f ++ (be32 s.g ++ (be32 s.h ++ (List.replicate 64 0 ++ be64 (UInt64.ofNat ln))))))) := (A3.out.cut (by show (4 : Nat) ≤ 92; omega) rfl).tch h4.out.2
  generalize cut v3 4 = v4 at q4 A4
  clear h4 D3 T3 A3
  refine M3.out _ _ (wp_seq_k (fun L4 l4 => ?_))
  have M4 := Lib.hid l4
  clear l4 M3
  refine um4 a4 w4 f4 _ b ⟨s.a, s.b, s.c, s.d, s0.e, s0.f, s0.g, s0.h⟩ x0 nx0 ln0 v4 (be32 s.e ++ (be32 s.f ++ (be32 s.g ++ (be32 s.h ++ (List.replicate 64 0 ++ be64 (UInt64.ofNat ln)))))) s.e D4.out A4.out.1 A4.out.2.1 (by show (4 : Nat) ≤ 88; omega) (un_be32 _ _) p4 q4 ?_
  rintro a5 w5 ⟨f5, p5, q5, h5⟩
  have D5 : Hid (Dig w5 b ⟨s.a, s.b, s.c, s.d, s.e, s0.f, s0.g, s0.h⟩ x0 nx0 ln0) := h5.out.1
  have T5 : Hid (Tch [b] w w5) := T4.out.trans h5.out.2
  have A5 : Hid (Ats w5 b (cut v4 4) (be32 s.f ++ (be32 s.g ++ (be32 s.h ++ (List.replicate 64 0 ++ be64 (UInt64.ofNat ln)))))) := (A4.out.cut (by show (4 : Nat) ≤ 88; omega) rfl).tch h5.out.2
  generalize cut v4 4 = v5 at q5 A5
  clear h5 D4 T4 A4
  refine M4.out _ _ (wp_seq_k (fun L5 l5 => ?_))
  have M5 := Lib.hid l5
  clear l5 M4
  refine um5 a5 w5 f5 _ b ⟨s.a, s.b, s.c, s.d, s.e, s0.f, s0.g, s0.h⟩ x0 nx0 ln0 v5 (be32 s.f ++ (be32 s.g ++ (be32 s.h ++ (List.replicate 64 0 ++ be64 (UInt64.ofNat ln))))) s.f D5.out A5.out.1 A5.out.2.1 (by show (4 : Nat) ≤ 84; omega) (un_be32 _ _) p5 q5 ?_
  rintro a6 w6 ⟨f6, p6, q6, h6⟩
  have D6 : Hid (Dig w6 b ⟨s.a, s.b, s.c, s.d, s.e, s.f, s0.g, s0.h⟩ x0 nx0 ln0) := h6.out.1
  have T6 : Hid (Tch [b] w w6) := T5.out.trans h6.out.2
  have A6 : Hid (Ats w6 b (cut v5 4) (be32 s.g ++ (be32 s.h ++ (List.replicate 64 0 ++ be64 (UInt64.ofNat ln))))) := (A5.out.cut (by show (4 : Nat) ≤ 84; omega) rfl).tch h6.out.2
  generalize cut v5 4 = v6 at q6 A6
  clear h6 D5 T5 A5
  refine M5.out _ _ (wp_seq_k (fun L6 l6 => ?_))
  have M6 := Lib.hid l6
  clear l6 M5
  refine um6 a6 w6 f6 _ b ⟨s.a, s.b, s.c, s.d, s.e, s.f, s0.g, s0.h⟩ x0 nx0 ln0 v6 (be32 s.g ++ (be32 s.h ++ (List.replicate 64 0 ++ be64 (UInt64.ofNat ln)))) s.g D6.out A6.out.1 A6.out.2.1 (by show (4 : Nat) ≤ 80; omega) (un_be32 _ _) p6 q6 ?_
  rintro a7 w7 ⟨f7, p7, q7, h7⟩
  have D7 : Hid (Dig w7 b ⟨s.a, s.b, s.c, s.d, s.e, s.f, s.g, s0.h⟩ x0 nx0 ln0) := h7.out.1
  have T7 : Hid (Tch [b] w w7) := T6.out.trans h7.out.2
  have A7 : Hid (Ats w7 b (cut v6 4) (be32 s.h ++ (List.replicate 64 0 ++ be64 (UInt64.ofNat ln)))) := (A6.out.cut (by show (4 : Nat) ≤ 80; omega) rfl).tch h7.out.2
  generalize cut v6 4 = v7 at q7 A7
  clear h7 D6 T6 A6
  refine M6.out _ _ (wp_seq_k (fun L7 l7 => ?_))
  have M7 := Lib.hid l7
  clear l7 M6
  refine um7 a7 w7 f7 _ b ⟨s.a, s.b, s.c, s.d, s.e, s.f, s.g, s0.h⟩ x0 nx0 ln0 v7 (be32 s.h ++ (List.replicate 64 0 ++ be64 (UInt64.ofNat ln))) s.h D7.out A7.out.1 A7.out.2.1 (by show (4 : Nat) ≤ 76; omega) (un_be32 _ _) p7 q7 ?_
  rintro a8 w8 ⟨f8, p8, q8, h8⟩
  have D8 : Hid (Dig w8 b ⟨s.a, s.b, s.c, s.d, s.e, s.f, s.g, s.h⟩ x0 nx0 ln0) := h8.out.1
  have T8 : Hid (Tch [b] w w8) := T7.out.trans h8.out.2
  have A8 : Hid (Ats w8 b (cut v7 4) (List.replicate 64 0 ++ be64 (UInt64.ofNat ln))) := (A7.out.cut (by show (4 : Nat) ≤ 76; omega) rfl).tch h8.out.2
  generalize cut v7 4 = v8 at q8 A8
  clear h8 D7 T7 A7
  refine M7.out _ _ (wp_seq_k (fun L8 l8 => ?_))
  have M8 := Lib.hid l8
  clear l8 M7
  have D8' : Hid (Dig w8 b s x0 nx0 ln0) := D8.out
  have hs4 : ∀ w, (Instr.slice 24 v8 (some (.int .i64 64)) none none).run Try.prog w = .ok (cut v8 64) w := nm_cut A8.out.1 A8.out.2.1 64 (by show (64 : Nat) ≤ 72; omega)
  have A9 : Hid (Ats w8 b (cut v8 64) (be64 (UInt64.ofNat ln))) := A8.out.cut (by show (64 : Nat) ≤ 72; omega) rfl
  generalize cut v8 64 = v9 at hs4 A9
  rw [lit137 a8 f8]
  simp only [p8, q8]
  clear f8 p8 q8 D8
  obtain ⟨D, hDD⟩ : ∃ D, D = digCells s x0 nx0 ln0 := ⟨_, rfl⟩
  have HDD := Lib.hid hDD
  have hrow : Row w8 b 104 D := by rw [hDD]; exact D8'.out.row
  have hlen : D.length = 75 := by rw [hDD, digCells_length, D8'.out.len]
  clear hDD
  obtain ⟨L, hL⟩ : ∃ L, L = List.replicate 64 0 ++ be64 (UInt64.ofNat ln) := ⟨_, rfl⟩
  rw [← hL] at A8
  have HL := Lib.hid hL
  have HL1 : Hid (64 = min L.length 64) := by rw [hL]; rfl
  clear hL
  go_wp2_with (refine wpList_copy_by rfl _ _ rfl b 8 64 64 v8 L 104 D 64 HL1.out rfl rfl A8.out.1 hrow (by omega) ?_)
  intro w9 h9
  have D9 : Hid (Dig w9 b s (List.replicate 64 0) nx0 ln0) := by
    refine ⟨?_, by simp⟩
    have e : Row w9 b 104 (D.take 8 ++ ((L.take 64).map vb ++ D.drop (8 + 64))) := by rw [List.map_take]; exact h9.out.1
    rw [HDD.out, HL.out, show (List.replicate 64 (0 : UInt8) ++ be64 (UInt64.ofNat ln)).take 64 = List.replicate 64 0 from rfl, digCells_put s x0 (List.replicate 64 0) nx0 ln0 D8'.out.len] at e
    exact e
  have T9 : Hid (Tch [b] w w9) := T8.out.trans h9.out.2
  have A10 : Hid (Ats w9 b v9 (be64 (UInt64.ofNat ln))) := A9.out.tch h9.out.2
  clear h9 hrow hlen HDD T8 A8 A9 HL1 HL D8'
  go_wp2
  refine M8.out _ _ (wp_seq_k (fun L9 l9 => ?_))
  have M9 := Lib.hid l9
  clear l9 M8
  have hiq : iq (UInt64.ofNat ln) = (ln : Int) := by
    unfold iq
    rw [UInt64.toNat_ofNat', Nat.mod_eq_of_lt HLN.out]
  go_wp2_with (fail)
  refine (con64 v9 _ w9 A10.out.1 A10.out.2.1 (Nat.le_refl 8)).mono ?_
  rintro e w10 ⟨rfl, n10, rfl⟩
  have hu : un64 (be64 (UInt64.ofNat ln)) = UInt64.ofNat ln := by have := un_be64 (UInt64.ofNat ln) []; rwa [List.append_nil] at this
  rw [hu, hiq]
  clear hu hiq A10
  generalize cut v9 8 = v10
  have E10 : Dig (w9.drewN n10) b s (List.replicate 64 0) nx0 ln0 := D9.out.tch (S := []) (Tch.drewN _ _) (by simp)
  have c73 := E10.ln
  have f73 := E10.row.free 73
  clear E10
  go_wp2
  refine M9.out _ _ (wp_seq_k (fun L10 l10 => ?_))
  have M10 := Lib.hid l10
  clear l10 M9 c73 f73
  generalize hW : World.setCell _ _ _ = W
  have D11 : Hid (Dig W b s (List.replicate 64 0) nx0 ln) := by rw [← hW]; exact Dig.setLn (show Dig (w9.drewN n10) b s (List.replicate 64 0) nx0 ln0 from D9.out.tch (S := []) (Tch.drewN _ _) (by simp)) ln
  have T11 : Hid (Tch [b] w W) := by rw [← hW]; exact T9.out.trans ((Tch.drewN _ _).trans (Tch.setCell _ _ _ (by simp)))
  clear hW D9 T9
  have c73 := D11.out.ln
  have c72 := D11.out.nx
  have f72 := D11.out.row.free 72
  have hm : ((ln : Int)).tmod 64 = 0 := by have := HMOD.out; rw [Int.tmod_eq_emod_of_nonneg (by omega)]; omega
  have hb1 : (ln : Int) < 18446744073709551616 := by have := HLN.out; omega
  have hb0 : 0 ≤ (ln : Int) := by omega
  go_wp2
  refine M10.out _ _ ?_
  have D12 : Hid (Dig (W.setCell ⟨b, 72, none⟩ (.int .i64 0)) b s (List.replicate 64 0) 0 ln) := D11.out.setNx 0
  have T12 : Hid (Tch [b] w (W.setCell ⟨b, 72, none⟩ (.int .i64 0))) := T11.out.trans (Tch.setCell _ _ _ (by simp))
  clear c73 c72 f72 hm
  generalize World.setCell _ _ _ = V at D12 T12 ⊢
  go_wp2
  go_ret
  exact ⟨rfl, D12.out, T12.out⟩
end Go.Proofs.Ytgomodhhomekpaa

/-
  HMAC.Reset, HMAC.Sum where the state is kept written out.
-/
namespace Go.Proofs.Ytgomodhhomekpaa
open Go.RowKit Pu Ar
theorem taD (kt : List UInt32) (a : Addr) (w : World) : (Instr.typeAssert (.iface (hT (.sha kt)) (.pointer (some a))) 93 97 true).run Try.prog w = .ok (.tuple #[.iface (hT (.sha kt)) (.pointer (some a)), .bool true]) w := by kernel_rfl
theorem taDf (kt : List UInt32) (a : Addr) (w : World) : (Instr.typeAssert (.iface (hT (.sha kt)) (.pointer (some a))) 93 97 false).run Try.prog w = .ok (.iface (hT (.sha kt)) (.pointer (some a))) w := by kernel_rfl
theorem least_some (s : String) (l : List String) : ∃ m, Instr.least (s :: l) = some m := ⟨_, rfl⟩
theorem two_least (p : String → Bool) (f : String → String) (L : List String) (h : L ≠ []) : ∃ m, (Instr.least (L.filter (not ∘ p)) <|> Instr.least ((L.filter p).map f)) = some m := by
  cases h2 : L.filter (not ∘ p) with
  | cons s l =>
    obtain ⟨m, hm⟩ := least_some s l
    exact ⟨m, by rw [hm]; rfl⟩
  | nil =>
    cases h3 : L.filter p with
    | cons s l => exact least_some _ _
    | nil =>
      exfalso
      cases L with
      | nil => exact h rfl
      | cons s l =>
        have a1 := List.filter_eq_nil_iff.1 h2 s (by simp)
        have a2 := List.filter_eq_nil_iff.1 h3 s (by simp)
        simp only [Function.comp, Bool.not_eq_true] at a1 a2
        rw [a2] at a1; exact absurd a1 (by simp)
theorem missing_some {want : Array (String × TypeId)} {got : Array Method} (h : (want.toList.filter fun x => !got.any fun m => m.name == x.1 && m.sig == x.2).length ≠ 0) : ∃ m, Instr.missingMethod want got = some m := by
  unfold Instr.missingMethod
  simp only [List.partition_eq_filter_filter]
  refine two_least _ _ _ ?_
  intro e
  have := congrArg List.length e
  rw [List.length_map] at this
  exact h this
theorem ownLacks : ((Try.prog.underlying 97).bind fun d => match d with | .interface want => (Try.prog.info? 77).map fun i => decide ((want.toList.filter fun x => !i.methods.any fun m => m.name == x.1 && m.sig == x.2).length ≠ 0) | _ => none) = some true := by kernel_rfl
theorem taO (s bl : Nat) (a : Addr) (w : World) : (Instr.typeAssert (.iface (hT (.own s bl)) (.pointer (some a))) 93 97 true).run Try.prog w = .ok (.tuple #[.nilIface, .bool false]) w := by
  have h := ownLacks
  have hu := Try.underlying97
  rw [hu] at h
  simp only [Option.bind_some] at h
  obtain ⟨i, hi, hm⟩ := Option.map_eq_some_iff.1 h
  obtain ⟨m, hm⟩ := missing_some (of_decide_eq_true hm)
  have hz : (zeroValue 97).run Try.prog w = .ok .nilIface w := by kernel_rfl
  simp [Instr.typeAssert, run_underlying hu, hT, typeInfo, hi, hm, hz]
theorem mMar (kt : List UInt32) (a : Addr) (w : World) : (method 251 (hT (.sha kt)) (.pointer (some a)) "MarshalBinary").run Try.prog w = .ok (96, .pointer (some a)) w := by kernel_rfl
theorem mUnm (kt : List UInt32) (a : Addr) (w : World) : (method 251 (hT (.sha kt)) (.pointer (some a)) "UnmarshalBinary").run Try.prog w = .ok (99, .pointer (some a)) w := by kernel_rfl
/-- What Reset leaves where the state is written out from now on. -/
def RSD (kt : List UInt32) (F : HF) (o i : By) (w : World) (e : Ending) (w' : World) : Prop :=
  e = .returned (.tuple #[]) ∧ ∃ F' : HF, Hid (MacAt w' (.sha kt) F' (marsh (blocks kt init o) o.length) (marsh (blocks kt init i) i.length) i ∧ F'.mar = true ∧ F'.m = F.m ∧ Tch [F.m, F.bo, F.so, F.bi, F.si] w w' ∧ ∀ b ∈ F'.all, b ∈ F.all ∨ w.heap.size ≤ b)
theorem rsdEnd (kt : List UInt32) (F : HF) (o i : By) (w w5 : World) (g1 g2 : Nat) (mi mo : By) (M : MacAt w5 (.sha kt) F o i i) (T : Tch [F.bo, F.so, F.bi, F.si] w w5) (h1 : OwnC w5 g1 108 mi) (h2 : OwnC w5 g2 108 mo) (hi : mi.length = 108) (ho : mo.length = 108)
    (n1 : ∀ b ∈ F.all, b < g1) (n2 : ∀ b ∈ F.all, b < g2) (w1 : w.heap.size ≤ g1) (w2 : w.heap.size ≤ g2) :
    ∃ F' : HF, F'.mar = true ∧ F'.m = F.m ∧ MacAt (((w5.setCell ⟨F.m, 1, none⟩ (.slice (some ⟨g1, 0, none⟩) 108 108)).setCell ⟨F.m, 0, none⟩ (.slice (some ⟨g2, 0, none⟩) 108 108)).setCell ⟨F.m, 4, none⟩ (.bool true)) (.sha kt) F' mo mi i ∧
      Tch [F.m, F.bo, F.so, F.bi, F.si] w (((w5.setCell ⟨F.m, 1, none⟩ (.slice (some ⟨g1, 0, none⟩) 108 108)).setCell ⟨F.m, 0, none⟩ (.slice (some ⟨g2, 0, none⟩) 108 108)).setCell ⟨F.m, 4, none⟩ (.bool true)) ∧ ∀ b ∈ F'.all, b ∈ F.all ∨ w.heap.size ≤ b := by
  obtain ⟨lo, hlo⟩ := M.outer
  obtain ⟨a1, a2, a3, a4⟩ := M.m1
  obtain ⟨b1, b2, b3, b4, b5⟩ := M.k1
  have k : Tch [F.m] w5 (((w5.setCell ⟨F.m, 1, none⟩ (.slice (some ⟨g1, 0, none⟩) 108 108)).setCell ⟨F.m, 0, none⟩ (.slice (some ⟨g2, 0, none⟩) 108 108)).setCell ⟨F.m, 4, none⟩ (.bool true)) :=
    ((Tch.setCell _ _ _ (by simp)).trans (Tch.setCell _ _ _ (by simp))).trans (Tch.setCell _ _ _ (by simp))
  have x1 : ∀ b ∈ F.all, b ≠ g1 := fun b hb e => by have := n1 b hb; omega
  have x2 : ∀ b ∈ F.all, b ≠ g2 := fun b hb e => by have := n2 b hb; omega
  have m1 : F.m ∈ F.all := by simp [HF.all]
  have row := ((M.row.set 1 (.slice (some ⟨g1, 0, none⟩) 108 108)).set 0 (.slice (some ⟨g2, 0, none⟩) 108 108)).set 4 (.bool true)
  have H1 := h1.tch k (by simp only [List.mem_singleton]; exact fun e => x1 _ m1 e.symm)
  have H2 := h2.tch k (by simp only [List.mem_singleton]; exact fun e => x2 _ m1 e.symm)
  have r1 := H1.own.rd
  have r2 := H2.own.rd
  rw [hi] at r1
  rw [ho] at r2
  refine ⟨{ F with ov := .slice (some ⟨g2, 0, none⟩) 108 108, iv := .slice (some ⟨g1, 0, none⟩) 108 108, mar := true }, rfl, rfl, ⟨M.ok, row, ⟨lo, hlo.tch k (by simp [b1]) (by simp [Ne.symm a1]) (by simp [Ne.symm a2])⟩, M.inner.tch k (by simp [b1]) (by simp [Ne.symm a3]) (by simp [Ne.symm a4]), r2, r1,
    .inr ⟨_, _, _, _, rfl⟩, .inr ⟨_, _, _, _, rfl⟩, ?_, ?_, M.m1, M.k1, M.oi, ?_, ?_⟩, (T.mono (by simp +contextual)).trans (k.mono (by simp)), ?_⟩
  · intro b hb; simp only [Value.ownBlock, Option.some.injEq] at hb; subst hb; exact H2.lt
  · intro b hb; simp only [Value.ownBlock, Option.some.injEq] at hb; subst hb; exact H1.lt
  · intro b hb hm; simp only [Value.ownBlock, Option.some.injEq] at hb; subst hb
    exact x2 g2 (by simp only [HF.all, List.mem_cons, List.not_mem_nil, or_false] at hm ⊢; rcases hm with h | h | h | h | h <;> simp [h]) rfl
  · intro b hb hm; simp only [Value.ownBlock, Option.some.injEq] at hb; subst hb
    exact x1 g1 (by simp only [HF.all, List.mem_cons, List.not_mem_nil, or_false] at hm ⊢; rcases hm with h | h | h | h | h <;> simp [h]) rfl
  · intro b hb
    simp only [HF.all, Value.ownBlock, Option.toList, List.cons_append, List.nil_append, List.mem_cons, List.not_mem_nil, or_false] at hb
    rcases hb with h | h | h | h | h | h | h | h
    all_goals first | (left; simp [HF.all, h]; done) | (right; omega)
set_option maxHeartbeats 1000000 in
set_option maxRecDepth 100000 in
theorem macReset0 (kt : List UInt32) (F : HF) (o i l : By) (w : World) (h : MacAt w (.sha kt) F o i l) (hmar : F.mar = false) (hil : i.length = 64) (hol : o.length = 64) :
    Calls Try.prog 60 #[.pointer (some ⟨F.m, 0, none⟩)] w (RSD kt F o i w) := by
  have c3 : w.cell? ⟨F.m, 3, none⟩ = some (.iface (hT (.sha kt)) (.pointer (some ⟨F.bi, 0, none⟩))) := by rw [h.row.cell]; rfl
  have c4 : w.cell? ⟨F.m, 4, none⟩ = some (.bool false) := by rw [h.row.cell, ← hmar]; rfl
  have HM := Lib.hid h
  have HMAR := Lib.hid hmar
  have HIL := Lib.hid hil
  have HOL := Lib.hid hol
  clear h hmar hil hol
  have b1 := mReset (.sha kt)
  have b2 := cReset (.sha kt)
  have d1 := mWrite (.sha kt)
  have d2 := cWrite (.sha kt)
  have f1 := taD kt
  have f2 := mMar kt
  go_enter Try.func60, Try.ntmps60
  refine wp_seq_k (fun K0 k0 => ?_)
  have J0 := Lib.hid k0
  clear k0
  go_wp2
  refine J0.out _ _ (wp_seq_k (fun K1 k1 => ?_))
  have J1 := Lib.hid k1
  clear k1
  go_wp2_with (fail)
  refine (hReset (.sha kt) F.bi F.si l w HM.out.inner).mono ?_
  rintro e W1 ⟨rfl, h1⟩
  have M1 : Hid (MacAt W1 (.sha kt) F o i []) := HM.out.turnIn h1.out.2 h1.out.1
  have T1 : Hid (Tch [F.bi, F.si] w W1) := h1.out.2
  clear h1 c3 c4
  have c3 : W1.cell? ⟨F.m, 3, none⟩ = some (.iface (hT (.sha kt)) (.pointer (some ⟨F.bi, 0, none⟩))) := by rw [M1.out.row.cell]; rfl
  have c1 : W1.cell? ⟨F.m, 1, none⟩ = some F.iv := by rw [M1.out.row.cell]; rfl
  go_wp2
  refine J1.out _ _ (wp_seq_k (fun K2 k2 => ?_))
  have J2 := Lib.hid k2
  clear k2
  refine wp_region_quiet_tail 10 (by kernel_rfl) (by kernel_rfl) ?_
  simp only [List.take_succ_cons, List.take_zero, List.drop_succ_cons, List.drop_zero]
  repeat (go_big_quiet_step (fail))
  refine wpQuiet_nil ?_
  go_wp2_with (fail)
  have M1d : Hid (MacAt W1.drew (.sha kt) F o i []) := M1.out.tch (Tch.drewN (S := []) W1 1) (by simp)
  refine (hWrite (.sha kt) F.bi F.si [] i F.iv W1.drew M1d.out.inner M1d.out.ird M1d.out.inm (off_sub M1d.out.offi (by simp +contextual)) (by have := HIL.out; simp; omega)).mono ?_
  rintro e W2 ⟨rfl, h2⟩
  have M2 : Hid (MacAt W2 (.sha kt) F o i i) := M1d.out.turnIn h2.out.2 h2.out.1
  have T2 : Hid (Tch [F.bi, F.si] w W2) := T1.out.trans ((Tch.drewN W1 1).trans h2.out.2)
  clear h2 c1 c3 M1 M1d T1
  have c3 : W2.cell? ⟨F.m, 3, none⟩ = some (.iface (hT (.sha kt)) (.pointer (some ⟨F.bi, 0, none⟩))) := by rw [M2.out.row.cell]; rfl
  have c2 : W2.cell? ⟨F.m, 2, none⟩ = some (.iface (hT (.sha kt)) (.pointer (some ⟨F.bo, 0, none⟩))) := by rw [M2.out.row.cell]; rfl
  go_wp2
  refine J2.out _ _ (wp_seq_k (fun K3 k3 => ?_))
  have J3 := Lib.hid k3
  clear k3
  go_wp2
  refine J3.out _ _ (wp_seq_k (fun K4 k4 => ?_))
  have J4 := Lib.hid k4
  clear k4
  have hnot : (Op.unary .not (.bool true)) = pure (.bool false) := rfl
  go_wp2
  refine J4.out _ _ (wp_seq_k (fun K5 k5 => ?_))
  have J5 := Lib.hid k5
  clear k5
  go_wp2
  refine J5.out _ _ (wp_seq_k (fun K6 k6 => ?_))
  have J6 := Lib.hid k6
  clear k6
  go_wp2
  refine J6.out _ _ (wp_seq_k (fun K7 k7 => ?_))
  have J7 := Lib.hid k7
  clear k7
  go_wp2_with (fail)
  refine (digMarshal kt F.bi i W2 M2.out.inner.2.1 (by rw [HIL.out]) (by rw [HIL.out]; omega)).mono ?_
  rintro e W3 ⟨g1, rfl, h3⟩
  have M3 : Hid (MacAt W3 (.sha kt) F o i i) := M2.out.tch h3.out.2.1 (by simp)
  have T3 : Hid (Tch [F.bi, F.si] w W3) := T2.out.trans (h3.out.2.1.mono (by simp))
  have O3 := Lib.hid h3.out.1
  have N3 : Hid (∀ b ∈ F.all, b < g1) := fun b hb => Nat.lt_of_lt_of_le (M2.out.lt b hb) h3.out.2.2
  have S3 : Hid (w.heap.size ≤ g1) := Nat.le_trans T2.out.size h3.out.2.2
  clear h3 c2 c3 M2 T2
  go_wp2
  refine J7.out _ _ (wp_seq_k (fun K8 k8 => ?_))
  have J8 := Lib.hid k8
  clear k8
  go_wp2
  refine J8.out _ _ (wp_seq_k (fun K9 k9 => ?_))
  have J9 := Lib.hid k9
  clear k9
  have c2 : W3.cell? ⟨F.m, 2, none⟩ = some (.iface (hT (.sha kt)) (.pointer (some ⟨F.bo, 0, none⟩))) := by rw [M3.out.row.cell]; rfl
  go_wp2_with (fail)
  obtain ⟨lo, hlo⟩ := M3.out.outer
  refine (hReset (.sha kt) F.bo F.so lo W3 hlo).mono ?_
  rintro e W4 ⟨rfl, h4⟩
  have M4 : Hid (MacAt W4 (.sha kt) F o i i) := M3.out.turnOut h4.out.2 h4.out.1
  have Q4 : Hid (HIs W4 (.sha kt) F.bo F.so []) := h4.out.1
  have T4 : Hid (Tch [F.bo, F.so, F.bi, F.si] w W4) := (T3.out.mono (by simp +contextual)).trans (h4.out.2.mono (by simp +contextual))
  have G1 : Hid (g1 ∉ [F.bo, F.so]) := by
    intro hm
    simp only [List.mem_cons, List.not_mem_nil, or_false] at hm
    rcases hm with h | h
    · have := N3.out F.bo (by simp [HF.all]); omega
    · have := N3.out F.so (by simp [HF.all]); omega
  have O4 : Hid (OwnC W4 g1 108 (marsh (blocks kt init i) i.length)) := O3.out.tch h4.out.2 G1.out
  clear h4 c2 hlo lo M3 T3 O3
  have c2 : W4.cell? ⟨F.m, 2, none⟩ = some (.iface (hT (.sha kt)) (.pointer (some ⟨F.bo, 0, none⟩))) := by rw [M4.out.row.cell]; rfl
  have c0 : W4.cell? ⟨F.m, 0, none⟩ = some F.ov := by rw [M4.out.row.cell]; rfl
  go_wp2
  refine J9.out _ _ (wp_seq_k (fun KA kA => ?_))
  have JA := Lib.hid kA
  clear kA
  refine wp_region_quiet_tail 10 (by kernel_rfl) (by kernel_rfl) ?_
  simp only [List.take_succ_cons, List.take_zero, List.drop_succ_cons, List.drop_zero]
  repeat (go_big_quiet_step (fail))
  refine wpQuiet_nil ?_
  go_wp2_with (fail)
  have M4d : Hid (MacAt W4.drew (.sha kt) F o i i) := M4.out.tch (Tch.drewN (S := []) W4 1) (by simp)
  have Q4d : HIs W4.drew (.sha kt) F.bo F.so [] := Q4.out.tch (Tch.drewN (S := []) W4 1) (by simp) (by simp) (by simp)
  refine (hWrite (.sha kt) F.bo F.so [] o F.ov W4.drew Q4d M4d.out.ord M4d.out.onm (off_sub M4d.out.offo (by simp +contextual)) (by have := HOL.out; simp; omega)).mono ?_
  rintro e W5 ⟨rfl, h5⟩
  have M5 : Hid (MacAt W5 (.sha kt) F o i i) := M4d.out.turnOut h5.out.2 h5.out.1
  have Q5 : Hid (HIs W5 (.sha kt) F.bo F.so o) := h5.out.1
  have T5 : Hid (Tch [F.bo, F.so, F.bi, F.si] w W5) := T4.out.trans ((Tch.drewN W4 1).trans (h5.out.2.mono (by simp +contextual)))
  have O5 : Hid (OwnC W5 g1 108 (marsh (blocks kt init i) i.length)) := O4.out.tch ((Tch.drewN (S := [F.bo, F.so]) W4 1).trans h5.out.2) G1.out
  clear h5 c2 c0 M4 M4d Q4 Q4d T4 O4
  go_wp2
  refine JA.out _ _ (wp_seq_k (fun KB kB => ?_))
  have JB := Lib.hid kB
  clear kB
  go_wp2_with (fail)
  refine (digMarshal kt F.bo o W5 Q5.out.2.1 (by rw [HOL.out]) (by rw [HOL.out]; omega)).mono ?_
  rintro e W6 ⟨g2, rfl, h6⟩
  have M6 : Hid (MacAt W6 (.sha kt) F o i i) := M5.out.tch h6.out.2.1 (by simp)
  have T6 : Hid (Tch [F.bo, F.so, F.bi, F.si] w W6) := T5.out.trans (h6.out.2.1.mono (by simp))
  have O6 : Hid (OwnC W6 g1 108 (marsh (blocks kt init i) i.length)) := O5.out.tch h6.out.2.1 (by simp)
  have P6 := Lib.hid h6.out.1
  have N6 : Hid (∀ b ∈ F.all, b < g2) := fun b hb => Nat.lt_of_lt_of_le (M5.out.lt b hb) h6.out.2.2
  have S6 : Hid (w.heap.size ≤ g2) := Nat.le_trans T5.out.size h6.out.2.2
  clear h6 M5 T5 O5 Q5
  obtain ⟨F', f1', f2', M7, T7, N7⟩ := rsdEnd kt F o i w W6 g1 g2 _ _ M6.out T6.out O6.out P6.out (marsh_length _ _) (marsh_length _ _) N3.out N6.out S3.out S6.out
  have E : Hid (RSD kt F o i w (.returned (.tuple #[])) (((W6.setCell ⟨F.m, 1, none⟩ (.slice (some ⟨g1, 0, none⟩) 108 108)).setCell ⟨F.m, 0, none⟩ (.slice (some ⟨g2, 0, none⟩) 108 108)).setCell ⟨F.m, 4, none⟩ (.bool true))) := ⟨rfl, F', M7, f1', f2', T7, N7⟩
  have c0 : W6.cell? ⟨F.m, 0, none⟩ = some F.ov := by rw [M6.out.row.cell]; rfl
  have c1 : W6.cell? ⟨F.m, 1, none⟩ = some F.iv := by rw [M6.out.row.cell]; rfl
  have c4 : W6.cell? ⟨F.m, 4, none⟩ = some (.bool F.mar) := by rw [M6.out.row.cell]; rfl
  have fr := fun j => M6.out.row.free j
  clear M7 T7 N7 f1' f2' M6 T6 O6 P6 N6 S6 N3 S3 HM HMAR G1
  go_wp2
  refine JB.out _ _ (wp_seq_k (fun KC kC => ?_))
  have JC := Lib.hid kC
  clear kC
  go_wp2
  refine JC.out _ _ (wp_seq_k (fun KD kD => ?_))
  have JD := Lib.hid kD
  clear kD
  go_wp2
  refine JD.out _ _ (wp_seq_k (fun KE kE => ?_))
  have JE := Lib.hid kE
  clear kE
  go_wp2
  refine JE.out _ _ ?_
  go_wp2
  go_end0
  exact E.out
end Go.Proofs.Ytgomodhhomekpaa

/-
  HMAC.Sum and HMAC.Reset where the state is kept written out; Reset of the other hash.
-/
namespace Go.Proofs.Ytgomodhhomekpaa
open Go.RowKit Pu Ar
theorem digIs_of (kt : List UInt32) (b : Nat) (l : By) (w : World) (hl : l.length % 64 = 0) (hlen : l.length ≤ 1099511627776) (h : Dig w b (blocks kt init l) (List.replicate 64 0) 0 l.length) : DigIs w b kt l := by
  refine ⟨by omega, _, by rw [hl]; exact h, ?_⟩
  rw [hl, List.take_zero]
  exact (List.eq_nil_of_length_eq_zero (by rw [rest_length, hl])).symm
set_option maxHeartbeats 1000000 in
set_option maxRecDepth 100000 in
theorem macSum1 (kt : List UInt32) (F : HF) (o om i l xs : By) (v : Value) (w : World) (h : MacAt w (.sha kt) F om i l) (hmar : F.mar = true) (hom : om = marsh (blocks kt init o) o.length) (ho64 : o.length = 64)
    (hv : Own w v xs) (hvf : Off F.all v) (hl : l.length ≤ 1099511627776) (hol : o.length ≤ 549755813888) (hx : xs.length + 64 ≤ 140737488355328) :
    Calls Try.prog 46 #[.pointer (some ⟨F.m, 0, none⟩), v] w (HSE (.sha kt) F v om i l (xs ++ (Pu.HK.sha kt).hash (o ++ (Pu.HK.sha kt).hash l)) w) := by
  have c3 : w.cell? ⟨F.m, 3, none⟩ = some (.iface (hT (Pu.HK.sha kt)) (.pointer (some ⟨F.bi, 0, none⟩))) := by rw [h.row.cell]; rfl
  have H1 := Lib.hid (hSum (Pu.HK.sha kt) F.bi F.si l xs v w h.inner hv (off_sub hvf (by simp +contextual [HF.all])) hl (by omega))
  obtain ⟨vp, vc, hve⟩ := own_ex hv
  have HM := Lib.hid h
  have HMAR := Lib.hid hmar
  have HOM := Lib.hid hom
  have HO64 := Lib.hid ho64
  have HV := Lib.hid hv
  have HVF := Lib.hid hvf
  have HL := Lib.hid hl
  have HOL := Lib.hid hol
  have HX := Lib.hid hx
  have hs1 := h.ok.size_pos
  have hs2 := h.ok.size_le
  clear h hmar hv hvf hl hol hx hom ho64
  subst hve
  have a1 := mSum (Pu.HK.sha kt)
  have a2 := cSum (Pu.HK.sha kt)
  have b1 := mReset (Pu.HK.sha kt)
  have b2 := cReset (Pu.HK.sha kt)
  have d1 := mWrite (Pu.HK.sha kt)
  have d2 := cWrite (Pu.HK.sha kt)
  have f1 := taDf kt
  have f2 := mUnm kt
  go_enter Try.func46, Try.ntmps46
  refine wp_seq_k (fun K0 k0 => ?_)
  have J0 := Lib.hid k0
  clear k0
  go_wp2
  refine J0.out _ _ (wp_seq_k (fun K1 k1 => ?_))
  have J1 := Lib.hid k1
  clear k1
  go_wp2_with (fail)
  refine J1.out _ _ (wp_seq_k (fun K2 k2 => ?_))
  have J2 := Lib.hid k2
  clear k2
  go_wp2_with (fail)
  refine H1.out.mono ?_
  rintro e W1 ⟨v1, rfl, h1⟩
  obtain ⟨hw1, t1, f1⟩ := h1.out
  obtain ⟨g, cap, rfl, hc1, hc2⟩ := hw1.shape (by intro e; have := congrArg List.length e; rw [List.length_append, (Pu.HK.sha kt).hash_length] at this; simp at this; omega)
  have hsz : (xs ++ (Pu.HK.sha kt).hash l).length = xs.length + (Pu.HK.sha kt).size := by rw [List.length_append, (Pu.HK.sha kt).hash_length]
  have F1 : Off F.all (.slice (some ⟨g, 0, none⟩) (xs ++ (Pu.HK.sha kt).hash l).length cap) := Grew.offs h1.out HVF.out HM.out.lt
  have M1 : Hid (MacAt W1 (Pu.HK.sha kt) F om i l) := HM.out.tch t1 (fun b hb => off_list HVF.out hb)
  rw [hsz] at hw1 hc1 F1 ⊢
  obtain ⟨nx, hnx⟩ : ∃ nx, nx = xs.length := ⟨_, rfl⟩
  rw [← hnx] at hw1 hc1 F1 ⊢
  obtain ⟨N, hN⟩ : ∃ N, N = nx + (Pu.HK.sha kt).size := ⟨_, rfl⟩
  rw [← hN] at hw1 hc1 F1 ⊢
  have O1 := Lib.hid hw1
  have OF1 := Lib.hid F1
  have T1 := Lib.hid t1
  have FR1 := Lib.hid f1
  have HNX := Lib.hid hnx
  have HNN := Lib.hid hN
  have n1 : (nx : Int) ≤ N := by omega
  have n2 : (N : Int) ≤ cap := by exact_mod_cast hc1
  have n3 : (cap : Int) ≤ 9223372036854775807 := by unfold maxLen at hc2; omega
  have n4 : 0 ≤ (nx : Int) := by omega
  have n5 : ¬ cap = nx := by omega
  have c4 : W1.cell? ⟨F.m, 4, none⟩ = some (.bool true) := by rw [M1.out.row.cell, ← HMAR.out]; rfl
  have c2 : W1.cell? ⟨F.m, 2, none⟩ = some (.iface (hT (Pu.HK.sha kt)) (.pointer (some ⟨F.bo, 0, none⟩))) := by rw [M1.out.row.cell]; rfl
  clear h1 hw1 F1 t1 f1 hsz hc1 hc2 hnx hN hs1 hs2 c3
  go_wp2
  refine J2.out _ _ (wp_seq_k (fun K3 k3 => ?_))
  have J3 := Lib.hid k3
  clear k3 H1
  refine wp_seq_k (fun K2b k2b => ?_)
  have J2b := Lib.hid k2b
  clear k2b
  have c0 : W1.cell? ⟨F.m, 0, none⟩ = some F.ov := by rw [M1.out.row.cell]; rfl
  go_wp2
  refine J2b.out _ _ ?_
  clear J2b
  go_wp2
  refine wp_region_quiet_tail 11 (by kernel_rfl) (by kernel_rfl) ?_
  simp only [List.take_succ_cons, List.take_zero, List.drop_succ_cons, List.drop_zero]
  repeat (go_big_quiet_step (fail))
  refine wpQuiet_nil ?_
  go_wp2_with (fail)
  have M2d : Hid (MacAt W1.drew (Pu.HK.sha kt) F om i l) := M1.out.tch (Tch.drewN (S := []) W1 1) (by simp)
  obtain ⟨lo, ho1⟩ := M2d.out.outer
  obtain ⟨hk2, ⟨_, x2, hd2, _⟩, hsb⟩ := ho1
  refine (digUnmarshal F.bo _ x2 _ _ F.ov (blocks kt init o) o.length W1.drew hd2 (by have := M2d.out.ord; rwa [HOM.out] at this) M2d.out.onm (off_sub M2d.out.offo (by simp +contextual)) (by rw [HO64.out]; omega) (by rw [HO64.out])).mono ?_
  rintro e W3 ⟨rfl, h3'⟩
  have h3 : Hid (HIs W3 (Pu.HK.sha kt) F.bo F.so o ∧ Tch [F.bo, F.so] W1.drew W3) := ⟨⟨hk2.tch h3'.out.2 (hk2.notDig (kt' := kt) (l := lo) ⟨by assumption, x2, hd2, by assumption⟩), digIs_of kt F.bo o W3 (by rw [HO64.out]) (by rw [HO64.out]; omega) h3'.out.1, hsb⟩, h3'.out.2.mono (by simp +contextual)⟩
  clear h3' hk2 hd2 hsb
  have M3 : Hid (MacAt W3 (Pu.HK.sha kt) F om i l) := M2d.out.turnOut h3.out.2 h3.out.1
  have ho3 : Hid (HIs W3 (Pu.HK.sha kt) F.bo F.so o) := h3.out.1
  have T3 : Hid (Tch [F.bo, F.so] W1 W3) := (Tch.drewN W1 1).trans h3.out.2
  have O3 : Hid (Own W3 (.slice (some ⟨g, 0, none⟩) N cap) (xs ++ (Pu.HK.sha kt).hash l)) := O1.out.tch T3.out (off_sub OF1.out (by simp +contextual [HF.all]))
  clear h3 c2 c0 M2d
  have c2 : W3.cell? ⟨F.m, 2, none⟩ = some (.iface (hT (Pu.HK.sha kt)) (.pointer (some ⟨F.bo, 0, none⟩))) := by rw [M3.out.row.cell]; rfl
  go_wp2
  refine J3.out _ _ (wp_seq_k (fun K4 k4 => ?_))
  have J4 := Lib.hid k4
  clear k4
  refine wp_region_quiet_tail 9 (by kernel_rfl) (by kernel_rfl) ?_
  simp only [List.take_succ_cons, List.take_zero, List.drop_succ_cons, List.drop_zero]
  repeat (go_big_quiet_step (fail))
  refine wpQuiet_nil ?_
  go_wp2_with (fail)
  have M3d : Hid (MacAt W3.drew (Pu.HK.sha kt) F om i l) := M3.out.tch (Tch.drewN (S := []) W3 1) (by simp)
  have ho3d : HIs W3.drew (Pu.HK.sha kt) F.bo F.so o := ho3.out.tch (Tch.drewN (S := []) W3 1) (by simp) (by simp) (by simp)
  have O3d : Own W3.drew (.slice (some ⟨g, 0, none⟩) N cap) (xs ++ (Pu.HK.sha kt).hash l) := O3.out.tch (Tch.drewN (S := []) W3 1) (by intro i _; simp)
  refine (hWrite (Pu.HK.sha kt) F.bo F.so o ((Pu.HK.sha kt).hash l) _ W3.drew ho3d (O3d.tail HNX.out) (.inr ⟨_, _, _, _, rfl⟩) (by intro i hi; exact OF1.out i hi |> fun h hm => h (by simp only [HF.all, List.mem_cons, List.not_mem_nil, or_false] at hm ⊢; omega)) (by have := HOL.out; rw [List.length_append, (Pu.HK.sha kt).hash_length]; have := M3d.out.ok.size_le; omega)).mono ?_
  rintro e W4 ⟨rfl, h4⟩
  have M4 : Hid (MacAt W4 (Pu.HK.sha kt) F om i l) := M3d.out.turnOut h4.out.2 h4.out.1
  have ho4 : Hid (HIs W4 (Pu.HK.sha kt) F.bo F.so (o ++ (Pu.HK.sha kt).hash l)) := h4.out.1
  have T4 : Hid (Tch [F.bo, F.so] W1 W4) := T3.out.trans ((Tch.drewN W3 1).trans h4.out.2)
  have O4 : Hid (Own W4 (.slice (some ⟨g, 0, none⟩) N cap) (xs ++ (Pu.HK.sha kt).hash l)) := O1.out.tch T4.out (off_sub OF1.out (by simp +contextual [HF.all]))
  clear h4 c2 ho3d M3d M3 ho3 T3 O3 O3d
  have c2 : W4.cell? ⟨F.m, 2, none⟩ = some (.iface (hT (Pu.HK.sha kt)) (.pointer (some ⟨F.bo, 0, none⟩))) := by rw [M4.out.row.cell]; rfl
  have n6 : (nx : Int) ≤ cap := by omega
  go_wp2
  refine J4.out _ _ (wp_seq_k (fun K5 k5 => ?_))
  have J5 := Lib.hid k5
  clear k5
  refine wp_region_quiet_tail 9 (by kernel_rfl) (by kernel_rfl) ?_
  simp only [List.take_succ_cons, List.take_zero, List.drop_succ_cons, List.drop_zero]
  repeat (go_big_quiet_step (fail))
  refine wpQuiet_nil ?_
  go_wp2_with (fail)
  have M4d : Hid (MacAt W4.drew (Pu.HK.sha kt) F om i l) := M4.out.tch (Tch.drewN (S := []) W4 1) (by simp)
  have ho4d : HIs W4.drew (Pu.HK.sha kt) F.bo F.so (o ++ (Pu.HK.sha kt).hash l) := ho4.out.tch (Tch.drewN (S := []) W4 1) (by simp) (by simp) (by simp)
  have O4d : Own W4.drew (.slice (some ⟨g, 0, none⟩) N cap) (xs ++ (Pu.HK.sha kt).hash l) := O4.out.tch (Tch.drewN (S := []) W4 1) (by intro i _; simp)
  have O4e : Own W4.drew (.slice (some ⟨g, 0, none⟩) nx cap) xs := by
    have := O4d.len
    subst this
    rw [HNX.out]; exact O4d.front
  refine (hSum (Pu.HK.sha kt) F.bo F.so (o ++ (Pu.HK.sha kt).hash l) xs _ W4.drew ho4d O4e (by intro i hi hm; exact OF1.out i hi (by simp only [HF.all, List.mem_cons, List.not_mem_nil, or_false] at hm ⊢; omega)) (by have := HOL.out; rw [List.length_append, (Pu.HK.sha kt).hash_length]; have := M4d.out.ok.size_le; omega) (by have := HX.out; omega)).mono ?_
  rintro e W5 ⟨v5, rfl, h5⟩
  go_wp2
  refine J5.out _ _ ?_
  go_wp2
  go_ret
  obtain ⟨p1, p2, p3⟩ := h5.out
  have OFg : Off F.all (.slice (some ⟨g, 0, none⟩) nx cap) := fun i hi => OF1.out i hi
  refine ⟨v5, rfl, p1, M4d.out.tch p2 (fun b hb => off_list OFg hb), ?_, Grew.offs h5.out OFg M4d.out.lt, ?_⟩
  · have t : Tch (F.bo :: F.so :: (Value.slice vp xs.length vc).ownBlock.toList) w W4.drew := (T1.out.mono (by simp +contextual)).trans ((T4.out.trans (Tch.drewN W4 1)).mono (by simp +contextual))
    refine t.new p2 ?_
    intro b hb
    have hb' : b = g := by simpa [Value.ownBlock] using hb
    subst hb'
    rcases FR1.out with h | ⟨g2, h, hg⟩
    · left
      rw [← h]; simp [Value.ownBlock]
    · right
      have : b = g2 := by simpa [Value.ownBlock] using h
      rw [this]; exact hg
  · have ws : w.heap.size ≤ W4.drew.heap.size := Nat.le_trans T1.out.size T4.out.size
    rcases p3 with h | ⟨g2, h, hg⟩
    · rcases FR1.out with h' | ⟨g2, h', hg⟩
      · exact .inl (h.trans h')
      · exact .inr ⟨g2, h.trans h', hg⟩
    · exact .inr ⟨g2, h, Nat.le_trans ws hg⟩
/-- What Reset leaves where it turns the inner hash alone. -/
def RSI (hk : Pu.HK) (F : HF) (o i l : By) (w : World) (e : Ending) (w' : World) : Prop :=
  e = .returned (.tuple #[]) ∧ Hid (MacAt w' hk F o i l ∧ Tch [F.bi, F.si] w w')
set_option maxHeartbeats 1000000 in
set_option maxRecDepth 100000 in
theorem macReset1 (kt : List UInt32) (F : HF) (om im i l : By) (w : World) (h : MacAt w (.sha kt) F om im l) (hmar : F.mar = true) (him : im = marsh (blocks kt init i) i.length) (hi64 : i.length = 64) :
    Calls Try.prog 60 #[.pointer (some ⟨F.m, 0, none⟩)] w (RSI (.sha kt) F om im i w) := by
  have c3 : w.cell? ⟨F.m, 3, none⟩ = some (.iface (hT (.sha kt)) (.pointer (some ⟨F.bi, 0, none⟩))) := by rw [h.row.cell]; rfl
  have c4 : w.cell? ⟨F.m, 4, none⟩ = some (.bool true) := by rw [h.row.cell, ← hmar]; rfl
  have c1 : w.cell? ⟨F.m, 1, none⟩ = some F.iv := by rw [h.row.cell]; rfl
  have HM := Lib.hid h
  have HIM := Lib.hid him
  have HI64 := Lib.hid hi64
  clear h hmar him hi64
  have f1 := taDf kt
  have f2 := mUnm kt
  go_enter Try.func60, Try.ntmps60
  refine wp_seq_k (fun K0 k0 => ?_)
  have J0 := Lib.hid k0
  clear k0
  go_wp2
  refine wp_region_quiet_tail 11 (by kernel_rfl) (by kernel_rfl) ?_
  simp only [List.take_succ_cons, List.take_zero, List.drop_succ_cons, List.drop_zero]
  repeat (go_big_quiet_step (fail))
  refine wpQuiet_nil ?_
  go_wp2_with (fail)
  have M1 : Hid (MacAt w.drew (.sha kt) F om im l) := HM.out.tch (Tch.drewN (S := []) w 1) (by simp)
  obtain ⟨hk2, ⟨_, x2, hd2, _⟩, hsb⟩ := M1.out.inner
  refine (digUnmarshal F.bi _ x2 _ _ F.iv (blocks kt init i) i.length w.drew hd2 (by have := M1.out.ird; rwa [HIM.out] at this) M1.out.inm (off_sub M1.out.offi (by simp +contextual)) (by rw [HI64.out]; omega) (by rw [HI64.out])).mono ?_
  rintro e W3 ⟨rfl, h3⟩
  have M3 : Hid (MacAt W3 (.sha kt) F om im i) := M1.out.turnIn (h3.out.2.mono (by simp)) ⟨hk2.tch h3.out.2 (hk2.notDig (kt' := kt) (l := l) ⟨by assumption, x2, hd2, by assumption⟩), digIs_of kt F.bi i W3 (by rw [HI64.out]) (by rw [HI64.out]; omega) h3.out.1, hsb⟩
  have T3 : Hid (Tch [F.bi, F.si] w W3) := (Tch.drewN w 1).trans (h3.out.2.mono (by simp))
  clear h3 hk2 hd2 hsb c3 c4 c1
  go_wp2
  go_end0
  exact ⟨rfl, M3.out, T3.out⟩
set_option maxHeartbeats 1000000 in
set_option maxRecDepth 100000 in
theorem macResetO (s bl : Nat) (F : HF) (o i l : By) (w : World) (h : MacAt w (.own s bl) F o i l) (hmar : F.mar = false) (hil : i.length ≤ 64) :
    Calls Try.prog 60 #[.pointer (some ⟨F.m, 0, none⟩)] w (RSI (.own s bl) F o i i w) := by
  have c3 : w.cell? ⟨F.m, 3, none⟩ = some (.iface (hT (.own s bl)) (.pointer (some ⟨F.bi, 0, none⟩))) := by rw [h.row.cell]; rfl
  have c4 : w.cell? ⟨F.m, 4, none⟩ = some (.bool false) := by rw [h.row.cell, ← hmar]; rfl
  have HM := Lib.hid h
  have HIL := Lib.hid hil
  clear h hmar hil
  have b1 := mReset (.own s bl)
  have b2 := cReset (.own s bl)
  have d1 := mWrite (.own s bl)
  have d2 := cWrite (.own s bl)
  have f1 := taO s bl
  go_enter Try.func60, Try.ntmps60
  refine wp_seq_k (fun K0 k0 => ?_)
  have J0 := Lib.hid k0
  clear k0
  go_wp2
  refine J0.out _ _ (wp_seq_k (fun K1 k1 => ?_))
  have J1 := Lib.hid k1
  clear k1
  go_wp2_with (fail)
  refine (hReset (.own s bl) F.bi F.si l w HM.out.inner).mono ?_
  rintro e W1 ⟨rfl, h1⟩
  have M1 : Hid (MacAt W1 (.own s bl) F o i []) := HM.out.turnIn h1.out.2 h1.out.1
  have T1 : Hid (Tch [F.bi, F.si] w W1) := h1.out.2
  clear h1 c3 c4
  have c3 : W1.cell? ⟨F.m, 3, none⟩ = some (.iface (hT (.own s bl)) (.pointer (some ⟨F.bi, 0, none⟩))) := by rw [M1.out.row.cell]; rfl
  have c1 : W1.cell? ⟨F.m, 1, none⟩ = some F.iv := by rw [M1.out.row.cell]; rfl
  go_wp2
  refine J1.out _ _ (wp_seq_k (fun K2 k2 => ?_))
  have J2 := Lib.hid k2
  clear k2
  refine wp_region_quiet_tail 10 (by kernel_rfl) (by kernel_rfl) ?_
  simp only [List.take_succ_cons, List.take_zero, List.drop_succ_cons, List.drop_zero]
  repeat (go_big_quiet_step (fail))
  refine wpQuiet_nil ?_
  go_wp2_with (fail)
  have M1d : Hid (MacAt W1.drew (.own s bl) F o i []) := M1.out.tch (Tch.drewN (S := []) W1 1) (by simp)
  refine (hWrite (.own s bl) F.bi F.si [] i F.iv W1.drew M1d.out.inner M1d.out.ird M1d.out.inm (off_sub M1d.out.offi (by simp +contextual)) (by have := HIL.out; simp; omega)).mono ?_
  rintro e W2 ⟨rfl, h2⟩
  have M2 : Hid (MacAt W2 (.own s bl) F o i i) := M1d.out.turnIn h2.out.2 h2.out.1
  have T2 : Hid (Tch [F.bi, F.si] w W2) := T1.out.trans ((Tch.drewN W1 1).trans h2.out.2)
  clear h2 c1 c3 M1 M1d T1
  have c3 : W2.cell? ⟨F.m, 3, none⟩ = some (.iface (hT (.own s bl)) (.pointer (some ⟨F.bi, 0, none⟩))) := by rw [M2.out.row.cell]; rfl
  have hnot : (Op.unary .not (.bool false)) = pure (.bool true) := rfl
  go_wp2
  refine J2.out _ _ (wp_seq_k (fun K3 k3 => ?_))
  have J3 := Lib.hid k3
  clear k3
  go_wp2
  refine J3.out _ _ (wp_seq_k (fun K4 k4 => ?_))
  have J4 := Lib.hid k4
  clear k4
  go_wp2
  go_end0
  exact ⟨rfl, M2.out, T2.out⟩
end Go.Proofs.Ytgomodhhomekpaa
