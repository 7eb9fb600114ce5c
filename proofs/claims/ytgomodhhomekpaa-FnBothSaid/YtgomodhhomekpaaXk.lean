/-
  hkdf.Key; impl.Key.
-/
import Derived.Test.YtgomodhhomekpaaM6
import Derived.Test.YtgomodhhomekpaaXr
namespace Go.Proofs.Ytgomodhhomekpaa
open Go.RowKit Pu Ar
theorem extract_length (hk : Pu.HK) (secret salt : By) : (extract hk secret salt).length = hk.size := mac_length _ _ _
set_option maxHeartbeats 1000000 in
set_option maxRecDepth 100000 in
/-- hkdf.Key. -/
theorem kKeyD (kt : List UInt32) (secret salt : By) (fs : ByteArray) (K : Nat) (v u : Value) (w : World) (hK : KIs w kt) (hv : Rd w v secret) (hvn : Nm v) (hvl : ∀ b, v.ownBlock = some b → b < w.heap.size)
    (hu : Rd w u salt) (hun : Nm u) (hul : ∀ b, u.ownBlock = some b → b < w.heap.size) (hnil : u = .slice none 0 0 ↔ salt = []) (hsl : secret.length ≤ 549755813888) (hkl : salt.length ≤ 549755813888) (hfl : fs.size ≤ 2147483647) (hKb : K ≤ 255 * Pu.HK.size (Pu.HK.sha kt)) :
    Calls Try.prog 48 #[(.func (.func 49) #[] #[]), v, u, .string fs, .int .i64 (K : Int)] w (BYE w (expand (Pu.HK.sha kt) (extract (Pu.HK.sha kt) secret salt) fs.data.toList K)) := by
  have HC := Lib.hid (kExtractD kt secret salt v u w hK hv hvn hvl hu hun hul hnil hsl hkl)
  have HK := Lib.hid hK
  have HFL := Lib.hid hfl
  have HKB := Lib.hid hKb
  clear hK hv hvn hvl hu hun hul hnil hsl hkl hfl hKb
  go_enter Try.func48, Try.ntmps48
  refine wp_seq_k (fun K0 k0 => ?_)
  have J0 := Lib.hid k0
  clear k0
  go_wp2
  refine J0.out _ _ (wp_seq_k (fun K1 k1 => ?_))
  have J1 := Lib.hid k1
  clear k1
  go_wp2_with (fail)
  refine HC.out.mono ?_
  rintro e W1 ⟨v1, rfl, h1⟩
  go_wp2
  refine J1.out _ _ (wp_seq_k (fun K2 k2 => ?_))
  have J2 := Lib.hid k2
  clear k2
  go_wp2_with (fail)
  refine (kExpandD kt (extract (Pu.HK.sha kt) secret salt) fs K v1 W1 (HK.out.tch h1.out.tchNil (by simp)) h1.out.1.rd h1.out.1.nm h1.out.1.lt (by rw [extract_length]; have := Pu.HK.ok.size_le (show Pu.HK.ok (.sha kt) from trivial); omega) HFL.out HKB.out).mono ?_
  rintro e W2 ⟨v2, rfl, h2⟩
  go_wp2
  refine J2.out _ _ ?_
  go_wp2
  go_ret
  exact BYE.earlier ⟨v2, rfl, h2⟩ h1.out.tchNil
set_option maxHeartbeats 1000000 in
set_option maxRecDepth 100000 in
/-- hkdf.Key. -/
theorem kKeyO (kt : List UInt32) (k s bl : Int) (secret salt : By) (fs : ByteArray) (K : Nat) (v u : Value) (w : World) (hK : KIs w kt) (hv : Rd w v secret) (hvn : Nm v) (hvl : ∀ b, v.ownBlock = some b → b < w.heap.size)
    (hu : Rd w u salt) (hun : Nm u) (hul : ∀ b, u.ownBlock = some b → b < w.heap.size) (hnil : u = .slice none 0 0 ↔ salt = []) (hsl : secret.length ≤ 549755813888) (hkl : salt.length ≤ 549755813888) (hfl : fs.size ≤ 2147483647) (hKb : K ≤ 255 * Pu.HK.size (Pu.HK.own (szOf s bl) (blOf s bl))) :
    Calls Try.prog 50 #[(.func (.func 51) #[.agg #[.int .i64 k, .int .i64 s, .int .i64 bl]] #[]), v, u, .string fs, .int .i64 (K : Int)] w (BYE w (expand (Pu.HK.own (szOf s bl) (blOf s bl)) (extract (Pu.HK.own (szOf s bl) (blOf s bl)) secret salt) fs.data.toList K)) := by
  have HC := Lib.hid (kExtractO kt k s bl secret salt v u w hK hv hvn hvl hu hun hul hnil hsl hkl)
  have HK := Lib.hid hK
  have HFL := Lib.hid hfl
  have HKB := Lib.hid hKb
  clear hK hv hvn hvl hu hun hul hnil hsl hkl hfl hKb
  go_enter Try.func50, Try.ntmps50
  refine wp_seq_k (fun K0 k0 => ?_)
  have J0 := Lib.hid k0
  clear k0
  go_wp2
  refine J0.out _ _ (wp_seq_k (fun K1 k1 => ?_))
  have J1 := Lib.hid k1
  clear k1
  go_wp2_with (fail)
  refine HC.out.mono ?_
  rintro e W1 ⟨v1, rfl, h1⟩
  go_wp2
  refine J1.out _ _ (wp_seq_k (fun K2 k2 => ?_))
  have J2 := Lib.hid k2
  clear k2
  go_wp2_with (fail)
  refine (kExpandO kt k s bl (extract (Pu.HK.own (szOf s bl) (blOf s bl)) secret salt) fs K v1 W1 (HK.out.tch h1.out.tchNil (by simp)) h1.out.1.rd h1.out.1.nm h1.out.1.lt (by rw [extract_length]; have := Pu.HK.ok.size_le (own_ok s bl); omega) HFL.out HKB.out).mono ?_
  rintro e W2 ⟨v2, rfl, h2⟩
  go_wp2
  refine J2.out _ _ ?_
  go_wp2
  go_ret
  exact BYE.earlier ⟨v2, rfl, h2⟩ h1.out.tchNil
set_option maxHeartbeats 1000000 in
set_option maxRecDepth 100000 in
/-- impl.Key. -/
theorem iKey (kt : List UInt32) (k s bl : Int) (secret salt : By) (fs : ByteArray) (K : Nat) (v u : Value) (w : World) (hK : KIs w kt) (hv : Rd w v secret) (hu : Rd w u salt) (hsl : secret.length ≤ 549755813888) (hkl : salt.length ≤ 549755813888) (hfl : fs.size ≤ 2147483647) (hKb : K ≤ 255 * szK k s bl) :
    Calls Try.prog 30 #[.agg #[.int .i64 k, .int .i64 s, .int .i64 bl], v, u, .string fs, .int .i64 (K : Int)] w (BYE w (expand (kindOf kt k s bl) (extract (kindOf kt k s bl) secret salt) fs.data.toList K)) := by
  rw [← kind_size kt] at hKb
  have HFL := Lib.hid hfl
  have HKB := Lib.hid hKb
  have HV := Lib.hid hv
  have HU := Lib.hid hu
  have HSL := Lib.hid hsl
  have HKL := Lib.hid hkl
  have HK := Lib.hid hK
  clear hv hu hsl hkl hK hfl hKb
  go_enter Try.func30, Try.ntmps30
  refine wp_seq_k (fun K0 k0 => ?_)
  have J0 := Lib.hid k0
  clear k0
  go_wp2
  generalize hW1 : World.alloc _ _ = W1
  have R1 : Row W1 w.heap.size 23 [.int .i64 k, .int .i64 s, .int .i64 bl] := by rw [← hW1]; exact Row.new w 23 _
  have T1 : Hid (Tch [] w W1) := by rw [← hW1]; exact Tch.alloc _ _
  have c0 : W1.cell? ⟨w.heap.size, 0, none⟩ = some (.int .i64 k) := by rw [R1.cell]; rfl
  have c1 : W1.cell? ⟨w.heap.size, 1, none⟩ = some (.int .i64 s) := by rw [R1.cell]; rfl
  have c2 : W1.cell? ⟨w.heap.size, 2, none⟩ = some (.int .i64 bl) := by rw [R1.cell]; rfl
  have HR1 := Lib.hid R1
  clear hW1 R1
  obtain ⟨c, hc⟩ : ∃ c, c = w.heap.size := ⟨_, rfl⟩
  rw [← hc] at c0 c1 c2 HR1 ⊢
  clear hc
  by_cases hk : k = 1
  · subst hk
    rw [kind_sha] at HKB
    refine J0.out _ _ (wp_seq_k (fun K1 k1 => ?_))
    have J1 := Lib.hid k1
    clear k1
    go_wp2_with (fail)
    refine (iCopied v secret W1 (HV.out.tchNil T1.out) (by have := HSL.out; omega)).mono ?_
    rintro e W2 ⟨v2, rfl, h2⟩
    have T2 : Hid (Tch [] w W2) := T1.out.trans h2.out.1.tchNil
    go_wp2_with (fail)
    refine (iCopied u salt W2 (HU.out.tchNil T2.out) (by have := HKL.out; omega)).mono ?_
    rintro e W3 ⟨u3, rfl, h3⟩
    have T3 : Hid (Tch [] w W3) := T2.out.trans h3.out.1.tchNil
    have V3 := Lib.hid (h2.out.1.1.tch h3.out.1.tchNil (by intro b _; simp))
    go_wp2_with (fail)
    refine (kKeyD kt secret salt fs K v2 u3 W3 (HK.out.tch T3.out (by simp)) V3.out.rd V3.out.nm V3.out.lt h3.out.1.1.rd h3.out.1.1.nm h3.out.1.1.lt h3.out.2 HSL.out HKL.out HFL.out HKB.out).mono ?_
    rintro e W4 ⟨v4, rfl, h4⟩
    go_wp2
    go_ret
    rw [kind_sha]
    exact BYE.earlier ⟨v4, rfl, h4⟩ T3.out
  · rw [bad_kind kt k s bl hk] at HKB
    have hkb : (k == 1) = false := by simpa using hk
    refine J0.out _ _ (wp_seq_k (fun K1 k1 => ?_))
    have J1 := Lib.hid k1
    clear k1
    have hmf : ∀ (fn : Fn) (first cap : Array Value) (w : World), (Instr.makeFunc fn first cap).run Try.prog w = .ok (.func fn first cap) w := fun _ _ _ _ => rfl
    have KA : Hid (∀ w', Tch [] W1 w' → (w'.cell? ⟨c, 0, none⟩ = some (.int .i64 k) ∧ w'.cell? ⟨c, 1, none⟩ = some (.int .i64 s) ∧ w'.cell? ⟨c, 2, none⟩ = some (.int .i64 bl))) := fun w' h => ⟨h.cell c0 (by simp), h.cell c1 (by simp), h.cell c2 (by simp)⟩
    go_wp2
    refine J1.out _ _ (wp_seq_k (fun K2 k2 => ?_))
    have J2 := Lib.hid k2
    clear k2
    go_region_held3 (fun w' => w'.cell? ⟨c, 0, none⟩ = some (.int .i64 k) ∧ w'.cell? ⟨c, 1, none⟩ = some (.int .i64 s) ∧ w'.cell? ⟨c, 2, none⟩ = some (.int .i64 bl)) (exact KA.out _ (by first | exact Tch.drewN W1 1 | exact t2 | exact t3 | exact t4)) (first | (go_at_call 45; refine (iCopied v secret W1.drew (HV.out.tchNil (T1.out.trans (Tch.drewN W1 1))) (by have := HSL.out; omega)).mono ?_; rintro e W2 ⟨v2, rfl, h2⟩; have t2 : Tch [] W1 W2 := (Tch.drewN W1 1).trans h2.out.1.tchNil) | (go_at_call 45; refine (iCopied u salt W2 (HU.out.tchNil (T1.out.trans t2)) (by have := HKL.out; omega)).mono ?_; rintro e W3 ⟨u3, rfl, h3⟩; have t3 : Tch [] W1 W3 := t2.trans h3.out.1.tchNil) | (go_at_call 50; refine (kKeyO kt k s bl secret salt fs K v2 u3 W3 (HK.out.tch (T1.out.trans t3) (by simp)) (h2.out.1.1.tch h3.out.1.tchNil (by intro b _; simp)).rd h2.out.1.1.nm (fun b hb => Nat.lt_of_lt_of_le (h2.out.1.1.lt b hb) h3.out.1.tchNil.size) h3.out.1.1.rd h3.out.1.1.nm h3.out.1.1.lt h3.out.2 HSL.out HKL.out HFL.out HKB.out).mono ?_; rintro e W4 ⟨v4, rfl, h4⟩; have t4 : Tch [] W1 W4 := t3.trans h4.out.2.1))
    all_goals (go_wp2; refine J2.out _ _ ?_; go_wp2; go_ret; rw [bad_kind kt k s bl hk]; exact BYE.earlier ⟨v4, rfl, h4⟩ (T1.out.trans t3))
end Go.Proofs.Ytgomodhhomekpaa
