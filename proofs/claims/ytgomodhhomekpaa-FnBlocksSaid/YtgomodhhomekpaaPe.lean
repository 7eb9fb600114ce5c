/-
  errors.New; pbkdf2.Key where there is an error; impl.Derive.
-/
import Derived.Test.YtgomodhhomekpaaM6
import Derived.Test.YtgomodhhomekpaaPd
namespace Go.Proofs.Ytgomodhhomekpaa
open Go.RowKit Pu Ar
theorem vb_int (x : UInt8) : ∃ m : Nat, m < 256 ∧ vb x = .int .u8 (m : Int) ∧ m = x.toNat := ⟨x.toNat, x.toNat_lt, rfl, rfl⟩
set_option maxRecDepth 100000 in
theorem errNew (s : ByteArray) (w : World) : Calls Try.prog 70 #[.string s] w fun e w' => ∃ a, e = .returned (.iface 114 (.pointer (some a))) ∧ Hid (Tch [] w w') := by
  go_enter Try.func70, Try.ntmps70
  refine wp_seq_k (fun K0 k0 => ?_)
  have J0 := Lib.hid k0
  clear k0
  go_wp2
  refine J0.out _ _ ?_
  go_wp2
  go_ret
  exact ⟨_, rfl, Tch.alloc _ _⟩
/-- A nil error, or none. -/
def EqE (ee : Value) (b : Bool) : Prop := (∀ w, (binOp .eql 68 ee .nilIface).run Try.prog w = .ok (.bool b) w) ∧ ∀ i w, (eqGuard .eql 68 (.tmp i) (.const .nilIface) ee .nilIface).run Try.prog w = .ok () w
def PKX (w : World) (P : World → Value → Prop) (b : Bool) (e : Ending) (w' : World) : Prop := ∃ v' ee, e = .returned (.tuple #[v', ee]) ∧ EqE ee b ∧ Hid (P w' v' ∧ Tch [] w w')
theorem PKE.x {w w' : World} {l : By} {e : Ending} (h : PKE w l e w') : PKX w (fun w v => Rd w v l ∧ Nm v) true e w' := by
  obtain ⟨v', he, h1⟩ := h
  exact ⟨v', _, he, ⟨fun w => by kernel_rfl, fun i w => by kernel_rfl⟩, ⟨h1.out.1, h1.out.2.1⟩, h1.out.2.2⟩
theorem err_not (a : Addr) : EqE (.iface 114 (.pointer (some a))) false := ⟨fun w => by kernel_rfl, fun i w => by kernel_rfl⟩
set_option maxHeartbeats 1000000 in
set_option maxRecDepth 100000 in
/-- No bytes, and fewer. -/
theorem pKeyNegD (fv sv : Value) (ps : ByteArray) (it n : Int) (w : World) (hn : n ≤ 0) :
    Calls Try.prog 58 #[fv, .string ps, sv, .int .i64 it, .int .i64 n] w (PKX w (fun _ v => v = .slice none 0 0) false) := by
  go_enter Try.func58, Try.ntmps58
  refine wp_seq_k (fun K0 k0 => ?_)
  have J0 := Lib.hid k0
  clear k0
  go_wp2
  refine J0.out _ _ (wp_seq_k (fun K1 k1 => ?_))
  have J1 := Lib.hid k1
  clear k1 J0
  go_wp2_with (fail)
  refine (errNew _ w).mono ?_
  rintro e w1 ⟨a, rfl, h1⟩
  go_wp2
  go_ret2
  exact ⟨_, _, rfl, err_not a, rfl, h1.out⟩
set_option maxHeartbeats 1000000 in
set_option maxRecDepth 100000 in
/-- More than 2^32 - 1 blocks. -/
theorem pKeyLongD (kt : List UInt32) (ps : ByteArray) (it : Int) (K : Nat) (sv : Value) (w : World) (hK : KIs w kt) (hpl : ps.size ≤ 2147483647) (hK1 : 4294967295 * Pu.HK.size (Pu.HK.sha kt) < K) (hK2 : K ≤ 1000000000000) :
    Calls Try.prog 58 #[(.func (.func 49) #[] #[]), .string ps, sv, .int .i64 it, .int .i64 (K : Int)] w (PKX w (fun _ v => v = .slice none 0 0) false) := by
  obtain ⟨Z, hZ⟩ : ∃ Z, Z = Pu.HK.size (Pu.HK.sha kt) := ⟨_, rfl⟩
  have hz1 : 1 ≤ Z := by rw [hZ]; exact Pu.HK.ok.size_pos (show Pu.HK.ok (.sha kt) from trivial)
  have hz2 : Z ≤ 32 := by rw [hZ]; exact Pu.HK.ok.size_le (show Pu.HK.ok (.sha kt) from trivial)
  rw [← hZ] at hK1
  obtain ⟨NB, hNB⟩ : ∃ NB, NB = (K + Z - 1) / Z := ⟨_, rfl⟩
  have hNB1 : 4294967295 < NB := by
    have h := up_le K Z hz1
    rw [← hNB] at h
    rcases Nat.lt_or_ge 4294967295 NB with h1 | h1
    · exact h1
    · have := Nat.mul_le_mul_right Z h1; omega
  have hNB2 : NB ≤ 1000000000032 := by rw [hNB]; exact Nat.le_trans (Nat.div_le_self _ _) (by omega)
  have ik1 : ¬ ((K : Int) ≤ 0) := by omega
  have ik2 : (K : Int) ≤ 1000000000000 := by omega
  have iz1 : (1 : Int) ≤ Z := by omega
  have iz2 : (Z : Int) ≤ 32 := by omega
  have inb : (NB : Int) ≤ 1000000000032 := by omega
  have inb2 : (4294967295 : Int) < NB := by omega
  have iov : ¬ ((K : Int) + Z < K) := by omega
  have HDV : Hid (∀ w, Calls Try.prog 71 #[.int .i64 (K : Int), .int .i64 (Z : Int)] w fun e w' => e = .returned (.int .i64 (NB : Int)) ∧ w = w') := by
    intro w; rw [hNB]; exact divUp K Z hz1 (by omega) w
  have HZ := Lib.hid hZ
  have HK := Lib.hid hK
  have HPL : Hid (ps.data.toList.length ≤ 2147483647) := by show ps.data.toList.length ≤ _; rw [Array.length_toList]; exact hpl
  obtain ⟨W0, c0, hcv, hW0, hZ0⟩ := by_of_str2 w ps (by omega)
  clear hZ hz1 hz2 hNB hNB1 hNB2 hK hK1 hK2 hpl
  go_enter Try.func58, Try.ntmps58
  refine wp_seq_k (fun K0 k0 => ?_)
  have J0 := Lib.hid k0
  clear k0
  go_wp2
  refine J0.out _ _ (wp_seq_k (fun K1 k1 => ?_))
  have J1 := Lib.hid k1
  clear k1 J0
  go_wp2
  refine J1.out _ _ (wp_seq_k (fun K2 k2 => ?_))
  have J2 := Lib.hid k2
  clear k2 J1
  go_wp2_with (fail)
  refine (hmNewD kt ps.data.toList _ W0 (HK.out.tch hW0.out.1 (by simp)) hW0.out.2 (.inr ⟨_, _, _, _, rfl⟩) (by
    intro b hb
    simp only [Value.ownBlock, Option.some.injEq] at hb
    subst hb
    exact hZ0) (by have := HPL.out; omega)).mono ?_
  intro e W1 hn0
  obtain ⟨F, rfl, h1⟩ := kmNew hn0
  clear hn0
  have M1 : Hid (KM W1 (Pu.HK.sha kt) F ps.data.toList []) := h1.out.1
  have T1 : Hid (Tch [] w W1) := hW0.out.1.trans h1.out.2.1
  have N1 : Hid (NewF w F) := NewF.earlier h1.out.2.2 hW0.out.1.size
  clear h1 hcv hW0 hZ0
  go_wp2
  refine J2.out _ _ (wp_seq_k (fun K3 k3 => ?_))
  have J3 := Lib.hid k3
  clear k3 J2
  go_wp2_with (fail)
  refine (kmMark (Pu.HK.sha kt) F ps.data.toList [] W1 M1.out).mono ?_
  rintro e W2 ⟨rfl, h2⟩
  obtain ⟨F2, hF2⟩ : ∃ F2, F2 = { F with kdf := true } := ⟨_, rfl⟩
  have M2 : Hid (KM W2 (Pu.HK.sha kt) F2 ps.data.toList []) := by rw [hF2]; exact h2.out.1
  have B1 := N1.out.blk M1.out
  have T2 : Hid (Tch [] w W2) := tchNew T1.out h2.out.2 (by intro b hb; rw [List.mem_singleton.1 hb]; exact B1.1)
  have em : F.m = F2.m := by rw [hF2]
  rw [em]
  clear h2 B1 hF2 em N1 M1 T1
  go_wp2
  refine J3.out _ _ (wp_seq_k (fun K4 k4 => ?_))
  have J4 := Lib.hid k4
  clear k4 J3
  go_wp2_with (fail)
  refine (kmSize (Pu.HK.sha kt) F2 ps.data.toList [] W2 M2.out).mono ?_
  rintro e W2' ⟨rfl, rfl⟩
  rw [← HZ.out]
  go_wp2
  refine J4.out _ _ (wp_seq_k (fun K5 k5 => ?_))
  have J5 := Lib.hid k5
  clear k5 J4
  go_wp2_with (fail)
  refine (HDV.out W2).mono ?_
  rintro e W2' ⟨rfl, rfl⟩
  go_wp2
  refine J5.out _ _ (wp_seq_k (fun K6 k6 => ?_))
  have J6 := Lib.hid k6
  clear k6 J5
  go_wp2_with (fail)
  refine (errNew _ W2).mono ?_
  rintro e w1 ⟨a, rfl, h1⟩
  go_wp2
  go_ret2
  exact ⟨_, _, rfl, err_not a, rfl, T2.out.trans h1.out⟩
set_option maxHeartbeats 1000000 in
set_option maxRecDepth 100000 in
/-- No bytes, and fewer. -/
theorem pKeyNegO (fv sv : Value) (ps : ByteArray) (it n : Int) (w : World) (hn : n ≤ 0) :
    Calls Try.prog 59 #[fv, .string ps, sv, .int .i64 it, .int .i64 n] w (PKX w (fun _ v => v = .slice none 0 0) false) := by
  go_enter Try.func59, Try.ntmps59
  refine wp_seq_k (fun K0 k0 => ?_)
  have J0 := Lib.hid k0
  clear k0
  go_wp2
  refine J0.out _ _ (wp_seq_k (fun K1 k1 => ?_))
  have J1 := Lib.hid k1
  clear k1 J0
  go_wp2_with (fail)
  refine (errNew _ w).mono ?_
  rintro e w1 ⟨a, rfl, h1⟩
  go_wp2
  go_ret2
  exact ⟨_, _, rfl, err_not a, rfl, h1.out⟩
set_option maxHeartbeats 1000000 in
set_option maxRecDepth 100000 in
/-- More than 2^32 - 1 blocks. -/
theorem pKeyLongO (kt : List UInt32) (k s bl : Int) (ps : ByteArray) (it : Int) (K : Nat) (sv : Value) (w : World) (hK : KIs w kt) (hpl : ps.size ≤ 2147483647) (hK1 : 4294967295 * Pu.HK.size (Pu.HK.own (szOf s bl) (blOf s bl)) < K) (hK2 : K ≤ 1000000000000) :
    Calls Try.prog 59 #[(.func (.func 51) #[.agg #[.int .i64 k, .int .i64 s, .int .i64 bl]] #[]), .string ps, sv, .int .i64 it, .int .i64 (K : Int)] w (PKX w (fun _ v => v = .slice none 0 0) false) := by
  obtain ⟨Z, hZ⟩ : ∃ Z, Z = Pu.HK.size (Pu.HK.own (szOf s bl) (blOf s bl)) := ⟨_, rfl⟩
  have hz1 : 1 ≤ Z := by rw [hZ]; exact Pu.HK.ok.size_pos (own_ok s bl)
  have hz2 : Z ≤ 32 := by rw [hZ]; exact Pu.HK.ok.size_le (own_ok s bl)
  rw [← hZ] at hK1
  obtain ⟨NB, hNB⟩ : ∃ NB, NB = (K + Z - 1) / Z := ⟨_, rfl⟩
  have hNB1 : 4294967295 < NB := by
    have h := up_le K Z hz1
    rw [← hNB] at h
    rcases Nat.lt_or_ge 4294967295 NB with h1 | h1
    · exact h1
    · have := Nat.mul_le_mul_right Z h1; omega
  have hNB2 : NB ≤ 1000000000032 := by rw [hNB]; exact Nat.le_trans (Nat.div_le_self _ _) (by omega)
  have ik1 : ¬ ((K : Int) ≤ 0) := by omega
  have ik2 : (K : Int) ≤ 1000000000000 := by omega
  have iz1 : (1 : Int) ≤ Z := by omega
  have iz2 : (Z : Int) ≤ 32 := by omega
  have inb : (NB : Int) ≤ 1000000000032 := by omega
  have inb2 : (4294967295 : Int) < NB := by omega
  have iov : ¬ ((K : Int) + Z < K) := by omega
  have HDV : Hid (∀ w, Calls Try.prog 71 #[.int .i64 (K : Int), .int .i64 (Z : Int)] w fun e w' => e = .returned (.int .i64 (NB : Int)) ∧ w = w') := by
    intro w; rw [hNB]; exact divUp K Z hz1 (by omega) w
  have HZ := Lib.hid hZ
  have HK := Lib.hid hK
  have HPL : Hid (ps.data.toList.length ≤ 2147483647) := by show ps.data.toList.length ≤ _; rw [Array.length_toList]; exact hpl
  obtain ⟨W0, c0, hcv, hW0, hZ0⟩ := by_of_str2 w ps (by omega)
  clear hZ hz1 hz2 hNB hNB1 hNB2 hK hK1 hK2 hpl
  go_enter Try.func59, Try.ntmps59
  refine wp_seq_k (fun K0 k0 => ?_)
  have J0 := Lib.hid k0
  clear k0
  go_wp2
  refine J0.out _ _ (wp_seq_k (fun K1 k1 => ?_))
  have J1 := Lib.hid k1
  clear k1 J0
  go_wp2
  refine J1.out _ _ (wp_seq_k (fun K2 k2 => ?_))
  have J2 := Lib.hid k2
  clear k2 J1
  go_wp2_with (fail)
  refine (hmNewO k s bl ps.data.toList _ W0 (HK.out.tch hW0.out.1 (by simp)).lt hW0.out.2 (.inr ⟨_, _, _, _, rfl⟩) (by
    intro b hb
    simp only [Value.ownBlock, Option.some.injEq] at hb
    subst hb
    exact hZ0) (by have := HPL.out; omega)).mono ?_
  intro e W1 hn0
  obtain ⟨F, rfl, h1⟩ := kmNew hn0
  clear hn0
  have M1 : Hid (KM W1 (Pu.HK.own (szOf s bl) (blOf s bl)) F ps.data.toList []) := h1.out.1
  have T1 : Hid (Tch [] w W1) := hW0.out.1.trans h1.out.2.1
  have N1 : Hid (NewF w F) := NewF.earlier h1.out.2.2 hW0.out.1.size
  clear h1 hcv hW0 hZ0
  go_wp2
  refine J2.out _ _ (wp_seq_k (fun K3 k3 => ?_))
  have J3 := Lib.hid k3
  clear k3 J2
  go_wp2_with (fail)
  refine (kmMark (Pu.HK.own (szOf s bl) (blOf s bl)) F ps.data.toList [] W1 M1.out).mono ?_
  rintro e W2 ⟨rfl, h2⟩
  obtain ⟨F2, hF2⟩ : ∃ F2, F2 = { F with kdf := true } := ⟨_, rfl⟩
  have M2 : Hid (KM W2 (Pu.HK.own (szOf s bl) (blOf s bl)) F2 ps.data.toList []) := by rw [hF2]; exact h2.out.1
  have B1 := N1.out.blk M1.out
  have T2 : Hid (Tch [] w W2) := tchNew T1.out h2.out.2 (by intro b hb; rw [List.mem_singleton.1 hb]; exact B1.1)
  have em : F.m = F2.m := by rw [hF2]
  rw [em]
  clear h2 B1 hF2 em N1 M1 T1
  go_wp2
  refine J3.out _ _ (wp_seq_k (fun K4 k4 => ?_))
  have J4 := Lib.hid k4
  clear k4 J3
  go_wp2_with (fail)
  refine (kmSize (Pu.HK.own (szOf s bl) (blOf s bl)) F2 ps.data.toList [] W2 M2.out).mono ?_
  rintro e W2' ⟨rfl, rfl⟩
  rw [← HZ.out]
  go_wp2
  refine J4.out _ _ (wp_seq_k (fun K5 k5 => ?_))
  have J5 := Lib.hid k5
  clear k5 J4
  go_wp2_with (fail)
  refine (HDV.out W2).mono ?_
  rintro e W2' ⟨rfl, rfl⟩
  go_wp2
  refine J5.out _ _ (wp_seq_k (fun K6 k6 => ?_))
  have J6 := Lib.hid k6
  clear k6 J5
  go_wp2_with (fail)
  refine (errNew _ W2).mono ?_
  rintro e w1 ⟨a, rfl, h1⟩
  go_wp2
  go_ret2
  exact ⟨_, _, rfl, err_not a, rfl, T2.out.trans h1.out⟩
/-- What Derive hands back. -/
def IDE (w : World) (P : World → Value → Prop) (b : Bool) (e : Ending) (w' : World) : Prop := ∃ v', e = .returned (.tuple #[v', .bool b]) ∧ Hid (P w' v' ∧ Tch [] w w')
set_option linter.unusedSimpArgs false in
set_option maxHeartbeats 1000000 in
set_option maxRecDepth 100000 in
/-- impl.Derive, whatever Key hands back. -/
theorem iDeriveG (kt : List UInt32) (k s bl : Int) (ps : ByteArray) (salt : By) (it n : Int) (sv : Value) (P : World → Value → Prop) (hP : ∀ w w' v, Tch [] w w' → P w v → P w' v) (b : Bool) (w : World) (hK : KIs w kt) (hs : Rd w sv salt) (hsl : salt.length ≤ 2147483647)
    (hD : k = 1 → ∀ (W : World) (u : Value), KIs W kt → Rd W u salt → Nm u → (∀ b, u.ownBlock = some b → b < W.heap.size) → Calls Try.prog 58 #[(.func (.func 49) #[] #[]), .string ps, u, .int .i64 it, .int .i64 n] W (PKX W P b))
    (hO : k ≠ 1 → ∀ (W : World) (u : Value), KIs W kt → Rd W u salt → Nm u → (∀ b, u.ownBlock = some b → b < W.heap.size) → Calls Try.prog 59 #[(.func (.func 51) #[.agg #[.int .i64 k, .int .i64 s, .int .i64 bl]] #[]), .string ps, u, .int .i64 it, .int .i64 n] W (PKX W P b)) :
    Calls Try.prog 37 #[.agg #[.int .i64 k, .int .i64 s, .int .i64 bl], .string ps, sv, .int .i64 it, .int .i64 n] w (IDE w P b) := by
  have HS := Lib.hid hs
  have HSL := Lib.hid hsl
  have HK := Lib.hid hK
  have HD := Lib.hid hD
  have HO := Lib.hid hO
  clear hs hsl hK hD hO
  go_enter Try.func37, Try.ntmps37
  refine wp_seq_k (fun K0 k0 => ?_)
  have J0 := Lib.hid k0
  clear k0
  go_wp2
  generalize hW1 : World.alloc _ _ = W1
  have R1 : Row W1 w.heap.size 23 [.int .i64 k, .int .i64 s, .int .i64 bl] := by rw [← hW1]; exact Row.new w 23 _
  have T1 : Hid (Tch [] w W1) := by rw [← hW1]; exact Tch.alloc _ _
  have c0 : W1.cell? ⟨w.heap.size, 0, none⟩ = some (.int .i64 k) := by rw [R1.cell]; rfl
  have c1 : W1.cell? ⟨w.heap.size, 1, none⟩ = some (.int .i64 s) := by rw [R1.cell]; rfl
  have c2 : W1.cell? ⟨w.heap.size, 2, none⟩ = some (.int .i64 bl) := by rw [R1.cell]; rfl
  clear hW1 R1
  obtain ⟨c, hc⟩ : ∃ c, c = w.heap.size := ⟨_, rfl⟩
  rw [← hc] at c0 c1 c2 ⊢
  clear hc
  by_cases hk : k = 1
  · have HD1 := Lib.hid (HD.out hk)
    clear HD HO
    subst hk
    refine J0.out _ _ (wp_seq_k (fun K1 k1 => ?_))
    have J1 := Lib.hid k1
    clear k1 J0
    go_wp2_with (fail)
    refine (iCopied sv salt W1 (HS.out.tchNil T1.out) (by have := HSL.out; omega)).mono ?_
    rintro e W2 ⟨v2, rfl, h2⟩
    have T2 : Hid (Tch [] w W2) := T1.out.trans h2.out.1.tchNil
    go_wp2_with (fail)
    refine (HD1.out W2 v2 (HK.out.tch T2.out (by simp)) h2.out.1.1.rd h2.out.1.1.nm h2.out.1.1.lt).mono ?_
    rintro e W4 ⟨v4, ee, rfl, ⟨heq, heg⟩, h4⟩
    go_wp2
    refine wp_region_any (by kernel_rfl) ?_
    change wpAny _ _ _ _ _ _ _ (World.drew _)
    refine wpAny_take (i := 0) (v := ?v1) rfl (by kernel_rfl) (by kernel_rfl) (by kernel_rfl) (fun _ _ _ h => h) (Or.inl ⟨by kernel_rfl, ?hy1⟩) ?rest1
    case hy1 => (intro w; go_simp; all_goals with_reducible rfl)
    try simp only [Act.put, List.getElem_toArray, List.getElem_cons_succ, List.getElem_cons_zero, List.setIfInBounds_toArray, List.set_cons_zero, List.set_cons_succ]
    refine wpAny_take (i := 1) (v := ?v2) rfl (by kernel_rfl) (by kernel_rfl) (by kernel_rfl) (fun _ _ _ h => h) (Or.inl ⟨by kernel_rfl, ?hy2⟩) ?rest2
    case hy2 => (intro w; go_simp; all_goals with_reducible rfl)
    try simp only [Act.put, List.getElem_toArray, List.getElem_cons_succ, List.getElem_cons_zero, List.setIfInBounds_toArray, List.set_cons_zero, List.set_cons_succ]
    refine wpAny_take (i := 2) (v := ?v3) rfl (by kernel_rfl) (by kernel_rfl) (by kernel_rfl) (fun _ _ _ h => h) (Or.inl ⟨by kernel_rfl, ?hy3⟩) ?rest3
    case hy3 => (intro w; go_simp; all_goals with_reducible rfl)
    try simp only [Act.put, List.getElem_toArray, List.getElem_cons_succ, List.getElem_cons_zero, List.setIfInBounds_toArray, List.set_cons_zero, List.set_cons_succ]
    refine wpAny_take (i := 3) (v := ?v4) rfl (by kernel_rfl) (by kernel_rfl) (by kernel_rfl) (fun _ _ _ h => h) (Or.inl ⟨by kernel_rfl, ?hy4⟩) ?rest4
    case hy4 => (intro w; go_simp; all_goals with_reducible rfl)
    try simp only [Act.put, List.getElem_toArray, List.getElem_cons_succ, List.getElem_cons_zero, List.setIfInBounds_toArray, List.set_cons_zero, List.set_cons_succ]
    refine wpAny_take (i := 4) (v := ?v5) rfl (by kernel_rfl) (by kernel_rfl) (by kernel_rfl) (fun _ _ _ h => h) (Or.inl ⟨by kernel_rfl, ?hy5⟩) ?rest5
    case hy5 => (intro w; go_simp; all_goals with_reducible rfl)
    try simp only [Act.put, List.getElem_toArray, List.getElem_cons_succ, List.getElem_cons_zero, List.setIfInBounds_toArray, List.set_cons_zero, List.set_cons_succ]
    refine wpAny_done (by kernel_rfl) ?_ _
    go_wp2
    go_ret2
    exact ⟨v4, rfl, hP _ _ _ (Tch.drewN _ 1) h4.out.1, T2.out.trans (h4.out.2.trans (Tch.drewN _ 1))⟩
  · have HO1 := Lib.hid (HO.out hk)
    clear HD HO
    have hkb : (k == 1) = false := by simpa using hk
    refine J0.out _ _ (wp_seq_k (fun K1 k1 => ?_))
    have J1 := Lib.hid k1
    clear k1 J0
    have hmf : ∀ (fn : Fn) (first cap : Array Value) (w : World), (Instr.makeFunc fn first cap).run Try.prog w = .ok (.func fn first cap) w := fun _ _ _ _ => rfl
    have KA : Hid (∀ w', Tch [] W1 w' → (w'.cell? ⟨c, 0, none⟩ = some (.int .i64 k) ∧ w'.cell? ⟨c, 1, none⟩ = some (.int .i64 s) ∧ w'.cell? ⟨c, 2, none⟩ = some (.int .i64 bl))) := fun w' h => ⟨h.cell c0 (by simp), h.cell c1 (by simp), h.cell c2 (by simp)⟩
    go_wp2
    refine J1.out _ _ (wp_seq_k (fun K2 k2 => ?_))
    have J2 := Lib.hid k2
    clear k2 J1
    go_region_held3 (fun w' => w'.cell? ⟨c, 0, none⟩ = some (.int .i64 k) ∧ w'.cell? ⟨c, 1, none⟩ = some (.int .i64 s) ∧ w'.cell? ⟨c, 2, none⟩ = some (.int .i64 bl)) (exact KA.out _ (by first | exact Tch.drewN W1 1 | exact t2 | exact t4)) (first | (go_at_call 45; refine (iCopied sv salt W1.drew (HS.out.tchNil (T1.out.trans (Tch.drewN W1 1))) (by have := HSL.out; omega)).mono ?_; rintro e W2 ⟨v2, rfl, h2⟩; have t2 : Tch [] W1 W2 := (Tch.drewN W1 1).trans h2.out.1.tchNil) | (go_at_call 59; refine (HO1.out W2 v2 (HK.out.tch (T1.out.trans t2) (by simp)) h2.out.1.1.rd h2.out.1.1.nm h2.out.1.1.lt).mono ?_; rintro e W4 ⟨v4, ee, rfl, ⟨heq, heg⟩, h4⟩; have t4 : Tch [] W1 W4 := t2.trans h4.out.2))
    · go_wp2
      refine J2.out _ _ ?_
      go_wp2
      refine wp_region_any (by kernel_rfl) ?_
      change wpAny _ _ _ _ _ _ _ (World.drew _)
      refine wpAny_take (i := 0) (v := ?v6) rfl (by kernel_rfl) (by kernel_rfl) (by kernel_rfl) (fun _ _ _ h => h) (Or.inl ⟨by kernel_rfl, ?hy6⟩) ?rest6
      case hy6 => (intro w; go_simp; all_goals with_reducible rfl)
      try simp only [Act.put, List.getElem_toArray, List.getElem_cons_succ, List.getElem_cons_zero, List.setIfInBounds_toArray, List.set_cons_zero, List.set_cons_succ]
      refine wpAny_take (i := 1) (v := ?v7) rfl (by kernel_rfl) (by kernel_rfl) (by kernel_rfl) (fun _ _ _ h => h) (Or.inl ⟨by kernel_rfl, ?hy7⟩) ?rest7
      case hy7 => (intro w; go_simp; all_goals with_reducible rfl)
      try simp only [Act.put, List.getElem_toArray, List.getElem_cons_succ, List.getElem_cons_zero, List.setIfInBounds_toArray, List.set_cons_zero, List.set_cons_succ]
      refine wpAny_take (i := 2) (v := ?v8) rfl (by kernel_rfl) (by kernel_rfl) (by kernel_rfl) (fun _ _ _ h => h) (Or.inl ⟨by kernel_rfl, ?hy8⟩) ?rest8
      case hy8 => (intro w; go_simp; all_goals with_reducible rfl)
      try simp only [Act.put, List.getElem_toArray, List.getElem_cons_succ, List.getElem_cons_zero, List.setIfInBounds_toArray, List.set_cons_zero, List.set_cons_succ]
      refine wpAny_take (i := 3) (v := ?v9) rfl (by kernel_rfl) (by kernel_rfl) (by kernel_rfl) (fun _ _ _ h => h) (Or.inl ⟨by kernel_rfl, ?hy9⟩) ?rest9
      case hy9 => (intro w; go_simp; all_goals with_reducible rfl)
      try simp only [Act.put, List.getElem_toArray, List.getElem_cons_succ, List.getElem_cons_zero, List.setIfInBounds_toArray, List.set_cons_zero, List.set_cons_succ]
      refine wpAny_take (i := 4) (v := ?v10) rfl (by kernel_rfl) (by kernel_rfl) (by kernel_rfl) (fun _ _ _ h => h) (Or.inl ⟨by kernel_rfl, ?hy10⟩) ?rest10
      case hy10 => (intro w; go_simp; all_goals with_reducible rfl)
      try simp only [Act.put, List.getElem_toArray, List.getElem_cons_succ, List.getElem_cons_zero, List.setIfInBounds_toArray, List.set_cons_zero, List.set_cons_succ]
      refine wpAny_done (by kernel_rfl) ?_ _
      go_wp2
      go_ret2
      exact ⟨v4, rfl, hP _ _ _ (Tch.drewN _ 1) h4.out.1, T1.out.trans (t4.trans (Tch.drewN _ 1))⟩
    · go_wp2
      refine J2.out _ _ ?_
      go_wp2
      refine wp_region_any (by kernel_rfl) ?_
      change wpAny _ _ _ _ _ _ _ (World.drew _)
      refine wpAny_take (i := 0) (v := ?v11) rfl (by kernel_rfl) (by kernel_rfl) (by kernel_rfl) (fun _ _ _ h => h) (Or.inl ⟨by kernel_rfl, ?hy11⟩) ?rest11
      case hy11 => (intro w; go_simp; all_goals with_reducible rfl)
      try simp only [Act.put, List.getElem_toArray, List.getElem_cons_succ, List.getElem_cons_zero, List.setIfInBounds_toArray, List.set_cons_zero, List.set_cons_succ]
      refine wpAny_take (i := 1) (v := ?v12) rfl (by kernel_rfl) (by kernel_rfl) (by kernel_rfl) (fun _ _ _ h => h) (Or.inl ⟨by kernel_rfl, ?hy12⟩) ?rest12
      case hy12 => (intro w; go_simp; all_goals with_reducible rfl)
      try simp only [Act.put, List.getElem_toArray, List.getElem_cons_succ, List.getElem_cons_zero, List.setIfInBounds_toArray, List.set_cons_zero, List.set_cons_succ]
      refine wpAny_take (i := 2) (v := ?v13) rfl (by kernel_rfl) (by kernel_rfl) (by kernel_rfl) (fun _ _ _ h => h) (Or.inl ⟨by kernel_rfl, ?hy13⟩) ?rest13
      case hy13 => (intro w; go_simp; all_goals with_reducible rfl)
      try simp only [Act.put, List.getElem_toArray, List.getElem_cons_succ, List.getElem_cons_zero, List.setIfInBounds_toArray, List.set_cons_zero, List.set_cons_succ]
      refine wpAny_take (i := 3) (v := ?v14) rfl (by kernel_rfl) (by kernel_rfl) (by kernel_rfl) (fun _ _ _ h => h) (Or.inl ⟨by kernel_rfl, ?hy14⟩) ?rest14
      case hy14 => (intro w; go_simp; all_goals with_reducible rfl)
      try simp only [Act.put, List.getElem_toArray, List.getElem_cons_succ, List.getElem_cons_zero, List.setIfInBounds_toArray, List.set_cons_zero, List.set_cons_succ]
      refine wpAny_take (i := 4) (v := ?v15) rfl (by kernel_rfl) (by kernel_rfl) (by kernel_rfl) (fun _ _ _ h => h) (Or.inl ⟨by kernel_rfl, ?hy15⟩) ?rest15
      case hy15 => (intro w; go_simp; all_goals with_reducible rfl)
      try simp only [Act.put, List.getElem_toArray, List.getElem_cons_succ, List.getElem_cons_zero, List.setIfInBounds_toArray, List.set_cons_zero, List.set_cons_succ]
      refine wpAny_done (by kernel_rfl) ?_ _
      go_wp2
      go_ret2
      exact ⟨v4, rfl, hP _ _ _ (Tch.drewN _ 1) h4.out.1, T1.out.trans (t4.trans (Tch.drewN _ 1))⟩
/-- impl.Derive. -/
theorem iDerive (kt : List UInt32) (k s bl : Int) (ps : ByteArray) (salt : By) (M K : Nat) (sv : Value) (w : World) (hK : KIs w kt) (hs : Rd w sv salt) (hsl : salt.length ≤ 2147483647) (hpl : ps.size ≤ 2147483647) (hK1 : 1 ≤ K) (hK2 : K ≤ 10000) (hM : M ≤ 100000) :
    Calls Try.prog 37 #[.agg #[.int .i64 k, .int .i64 s, .int .i64 bl], .string ps, sv, .int .i64 ((M : Int) + 1), .int .i64 (K : Int)] w (IDE w (fun w v => Rd w v (derive (kindOf kt k s bl) ps.data.toList salt M K) ∧ Nm v) true) := by
  refine iDeriveG kt k s bl ps salt _ _ sv _ (fun w w' v k h => ⟨h.1.tchNil k, h.2⟩) true w hK hs hsl ?_ ?_
  · rintro rfl W u h1 h2 h3 h4
    rw [kind_sha]
    exact (pKeyD kt ps salt M K u W h1 h2 h3 h4 hsl hpl hK1 hK2 hM).mono fun e w' h => h.x
  · intro hk W u h1 h2 h3 h4
    rw [bad_kind kt k s bl hk]
    exact (pKeyO kt k s bl ps salt M K u W h1 h2 h3 h4 hsl hpl hK1 hK2 hM).mono fun e w' h => h.x
/-- impl.Derive of no bytes. -/
theorem iDeriveNeg (kt : List UInt32) (k s bl : Int) (ps : ByteArray) (salt : By) (it n : Int) (sv : Value) (w : World) (hK : KIs w kt) (hs : Rd w sv salt) (hsl : salt.length ≤ 2147483647) (hn : n ≤ 0) :
    Calls Try.prog 37 #[.agg #[.int .i64 k, .int .i64 s, .int .i64 bl], .string ps, sv, .int .i64 it, .int .i64 n] w (IDE w (fun _ v => v = .slice none 0 0) false) :=
  iDeriveG kt k s bl ps salt _ _ sv _ (fun _ _ _ _ h => h) false w hK hs hsl (fun _ W u _ _ _ _ => pKeyNegD _ u ps it n W hn) (fun _ W u _ _ _ _ => pKeyNegO _ u ps it n W hn)
/-- impl.Derive of too many bytes. -/
theorem iDeriveLong (kt : List UInt32) (k s bl : Int) (ps : ByteArray) (salt : By) (it : Int) (K : Nat) (sv : Value) (w : World) (hK : KIs w kt) (hs : Rd w sv salt) (hsl : salt.length ≤ 2147483647) (hpl : ps.size ≤ 2147483647) (hK1 : 4294967295 * szK k s bl < K) (hK2 : K ≤ 1000000000000) :
    Calls Try.prog 37 #[.agg #[.int .i64 k, .int .i64 s, .int .i64 bl], .string ps, sv, .int .i64 it, .int .i64 (K : Int)] w (IDE w (fun _ v => v = .slice none 0 0) false) := by
  rw [← kind_size kt] at hK1
  refine iDeriveG kt k s bl ps salt _ _ sv _ (fun _ _ _ _ h => h) false w hK hs hsl ?_ ?_
  · rintro rfl W u h1 h2 h3 h4
    exact pKeyLongD kt ps it K u W h1 hpl hK1 hK2
  · intro hk W u h1 h2 h3 h4
    rw [bad_kind kt k s bl hk] at hK1
    exact pKeyLongO kt k s bl ps it K u W h1 hpl hK1 hK2
end Go.Proofs.Ytgomodhhomekpaa
