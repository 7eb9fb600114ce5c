/-
  hkdf.Expand whole; impl.Expand.
-/
import Derived.Test.YtgomodhhomekpaaM6
import Derived.Test.YtgomodhhomekpaaXq
namespace Go.Proofs.Ytgomodhhomekpaa
open Go.RowKit Pu Ar
set_option maxHeartbeats 1000000 in
set_option maxRecDepth 100000 in
/-- hkdf.Expand. -/
theorem kExpandD (kt : List UInt32) (prk : By) (fs : ByteArray) (K : Nat) (u : Value) (w : World) (hK : KIs w kt) (hu : Rd w u prk) (hun : Nm u) (hul : ∀ b, u.ownBlock = some b → b < w.heap.size) (hkl : prk.length ≤ 549755813888) (hfl : fs.size ≤ 2147483647) (hKb : K ≤ 255 * Pu.HK.size (Pu.HK.sha kt)) :
    Calls Try.prog 52 #[(.func (.func 49) #[] #[]), u, .string fs, .int .i64 (K : Int)] w (BYE w (expand (Pu.HK.sha kt) prk fs.data.toList K)) := by
  have hK1 : K ≤ 10000 := by
    have : Pu.HK.size (Pu.HK.sha kt) ≤ 32 := Pu.HK.ok.size_le (show Pu.HK.ok (.sha kt) from trivial)
    omega
  obtain ⟨W1, hW1⟩ : ∃ W1, W1 = w.alloc (.cells (List.replicate K (Value.int .u8 0)).toArray 5) := ⟨_, rfl⟩
  have hmk : (Instr.makeSlice 24 (.int .i64 0) (.int .i64 (K : Int))).run Try.prog w = .ok (.slice (some ⟨w.heap.size, 0, none⟩) 0 K) W1 := by
    rw [hW1]; exact run_make_by 0 K (Nat.zero_le _) (by omega) w
  have OC : Hid (OwnC W1 w.heap.size K []) := by rw [hW1]; exact OwnC.new w K (by unfold maxLen; omega)
  have TW : Hid (Tch [] w W1) := by rw [hW1]; exact Tch.alloc _ _
  have SW : Hid (w.heap.size < W1.heap.size) := by rw [hW1]; show w.heap.size < (w.alloc _).heap.size; rw [World.size_alloc]; omega
  have KL : Hid (0 < w.heap.size) := hK.lt
  have HK := Lib.hid (hK.tch TW.out (by simp))
  have HU := Lib.hid (hu.tchNil TW.out)
  have HUN := Lib.hid hun
  have HUL : Hid (∀ b, u.ownBlock = some b → b < W1.heap.size) := fun b hb => Nat.lt_of_lt_of_le (hul b hb) TW.out.size
  have HKL := Lib.hid hkl
  have HFL := Lib.hid hfl
  have HKB := Lib.hid hKb
  clear hK hu hun hul hkl hfl hKb hK1 hW1
  go_enter Try.func52, Try.ntmps52
  refine wp_seq_k (fun K0 k0 => ?_)
  have J0 := Lib.hid k0
  clear k0
  go_wp2
  refine J0.out _ _ (wp_seq_k (fun K1 k1 => ?_))
  have J1 := Lib.hid k1
  clear k1
  go_wp2
  refine J1.out _ _ (wp_seq_k (fun K2 k2 => ?_))
  have J2 := Lib.hid k2
  clear k2 hmk
  go_wp2_with (fail)
  refine (hmNewD kt prk u W1 HK.out HU.out HUN.out HUL.out (by have := HKL.out; omega)).mono ?_
  intro e W2 hn0
  obtain ⟨F, rfl, h2⟩ := kmNew hn0
  clear hn0
  have N2 : Hid (NewF W1 F) := h2.out.2.2
  have hoff : Off F.all (.slice (some ⟨w.heap.size, 0, none⟩) 0 K) := by
    intro b hb hm
    simp only [Value.ownBlock, Option.some.injEq] at hb
    subst hb
    rcases N2.out _ hm with h | h
    · have := KL.out; omega
    · have := SW.out; omega
  have X : Hid (XPS w W2 (Pu.HK.sha kt) F prk fs.data.toList K 0 (.slice (some ⟨w.heap.size, 0, none⟩) 0 K) (.slice none 0 0)) := by
    refine ⟨⟨[], h2.out.1, fun _ => rfl⟩, ?_, Own.nil _, hoff, (by intro b hb; cases hb), (by intro b _ e; cases e), N2.out.earlier TW.out.size, ?_, (by intro b hb; cases hb), TW.out.trans h2.out.2.1⟩
    · have := (OC.out.tch h2.out.2.1 (by simp)).own
      simpa [expAll] using this
    · intro b hb; simp only [Value.ownBlock, Option.some.injEq] at hb; omega
  clear h2 N2 hoff OC TW SW KL HK HU HUN HUL HKL
  go_wp2
  refine J2.out _ _ (wp_seq_k (fun K3 k3 => ?_))
  have J3 := Lib.hid k3
  clear k3
  go_wp2
  refine J3.out _ _ (wp_seq_k (fun K4 k4 => ?_))
  have J4 := Lib.hid k4
  clear k4
  go_wp2
  refine J4.out _ _ (wp_seq_k (fun K5 k5 => ?_))
  have J5 := Lib.hid k5
  clear k5
  refine wp_block ?_
  refine xpLoop _ w W2 ⟨rfl, rfl⟩ _ (Pu.HK.sha kt) F prk _ fs K _ X.out HKB.out rfl HFL.out rfl rfl rfl rfl rfl rfl ?_
  rintro a' w' ⟨f, vo, g9, h3⟩
  refine J5.out _ _ ?_
  rw [lit61 a' f]
  simp only [g9]
  clear f g9
  refine wp_seq_k (fun K6 k6 => ?_)
  have J6 := Lib.hid k6
  clear k6
  go_wp2
  refine J6.out _ _ ?_
  go_wp2
  go_ret
  refine ⟨vo, rfl, h3.out.1, h3.out.2.1, ?_⟩
  cases hb : vo.ownBlock with
  | none => exact .inl rfl
  | some b => exact .inr ⟨b, rfl, h3.out.2.2 b hb⟩
set_option maxHeartbeats 1000000 in
set_option maxRecDepth 100000 in
/-- hkdf.Expand. -/
theorem kExpandO (kt : List UInt32) (k s bl : Int) (prk : By) (fs : ByteArray) (K : Nat) (u : Value) (w : World) (hK : KIs w kt) (hu : Rd w u prk) (hun : Nm u) (hul : ∀ b, u.ownBlock = some b → b < w.heap.size) (hkl : prk.length ≤ 549755813888) (hfl : fs.size ≤ 2147483647) (hKb : K ≤ 255 * Pu.HK.size (Pu.HK.own (szOf s bl) (blOf s bl))) :
    Calls Try.prog 53 #[(.func (.func 51) #[.agg #[.int .i64 k, .int .i64 s, .int .i64 bl]] #[]), u, .string fs, .int .i64 (K : Int)] w (BYE w (expand (Pu.HK.own (szOf s bl) (blOf s bl)) prk fs.data.toList K)) := by
  have hK1 : K ≤ 10000 := by
    have : Pu.HK.size (Pu.HK.own (szOf s bl) (blOf s bl)) ≤ 32 := Pu.HK.ok.size_le (own_ok s bl)
    omega
  obtain ⟨W1, hW1⟩ : ∃ W1, W1 = w.alloc (.cells (List.replicate K (Value.int .u8 0)).toArray 5) := ⟨_, rfl⟩
  have hmk : (Instr.makeSlice 24 (.int .i64 0) (.int .i64 (K : Int))).run Try.prog w = .ok (.slice (some ⟨w.heap.size, 0, none⟩) 0 K) W1 := by
    rw [hW1]; exact run_make_by 0 K (Nat.zero_le _) (by omega) w
  have OC : Hid (OwnC W1 w.heap.size K []) := by rw [hW1]; exact OwnC.new w K (by unfold maxLen; omega)
  have TW : Hid (Tch [] w W1) := by rw [hW1]; exact Tch.alloc _ _
  have SW : Hid (w.heap.size < W1.heap.size) := by rw [hW1]; show w.heap.size < (w.alloc _).heap.size; rw [World.size_alloc]; omega
  have KL : Hid (0 < w.heap.size) := hK.lt
  have HK := Lib.hid (hK.tch TW.out (by simp))
  have HU := Lib.hid (hu.tchNil TW.out)
  have HUN := Lib.hid hun
  have HUL : Hid (∀ b, u.ownBlock = some b → b < W1.heap.size) := fun b hb => Nat.lt_of_lt_of_le (hul b hb) TW.out.size
  have HKL := Lib.hid hkl
  have HFL := Lib.hid hfl
  have HKB := Lib.hid hKb
  clear hK hu hun hul hkl hfl hKb hK1 hW1
  go_enter Try.func53, Try.ntmps53
  refine wp_seq_k (fun K0 k0 => ?_)
  have J0 := Lib.hid k0
  clear k0
  go_wp2
  refine J0.out _ _ (wp_seq_k (fun K1 k1 => ?_))
  have J1 := Lib.hid k1
  clear k1
  go_wp2
  refine J1.out _ _ (wp_seq_k (fun K2 k2 => ?_))
  have J2 := Lib.hid k2
  clear k2 hmk
  go_wp2_with (fail)
  refine (hmNewO k s bl prk u W1 HK.out.lt HU.out HUN.out HUL.out (by have := HKL.out; omega)).mono ?_
  intro e W2 hn0
  obtain ⟨F, rfl, h2⟩ := kmNew hn0
  clear hn0
  have N2 : Hid (NewF W1 F) := h2.out.2.2
  have hoff : Off F.all (.slice (some ⟨w.heap.size, 0, none⟩) 0 K) := by
    intro b hb hm
    simp only [Value.ownBlock, Option.some.injEq] at hb
    subst hb
    rcases N2.out _ hm with h | h
    · have := KL.out; omega
    · have := SW.out; omega
  have X : Hid (XPS w W2 (Pu.HK.own (szOf s bl) (blOf s bl)) F prk fs.data.toList K 0 (.slice (some ⟨w.heap.size, 0, none⟩) 0 K) (.slice none 0 0)) := by
    refine ⟨⟨[], h2.out.1, fun _ => rfl⟩, ?_, Own.nil _, hoff, (by intro b hb; cases hb), (by intro b _ e; cases e), N2.out.earlier TW.out.size, ?_, (by intro b hb; cases hb), TW.out.trans h2.out.2.1⟩
    · have := (OC.out.tch h2.out.2.1 (by simp)).own
      simpa [expAll] using this
    · intro b hb; simp only [Value.ownBlock, Option.some.injEq] at hb; omega
  clear h2 N2 hoff OC TW SW KL HK HU HUN HUL HKL
  go_wp2
  refine J2.out _ _ (wp_seq_k (fun K3 k3 => ?_))
  have J3 := Lib.hid k3
  clear k3
  go_wp2
  refine J3.out _ _ (wp_seq_k (fun K4 k4 => ?_))
  have J4 := Lib.hid k4
  clear k4
  go_wp2
  refine J4.out _ _ (wp_seq_k (fun K5 k5 => ?_))
  have J5 := Lib.hid k5
  clear k5
  refine wp_block ?_
  refine xpLoop _ w W2 ⟨rfl, rfl⟩ _ (Pu.HK.own (szOf s bl) (blOf s bl)) F prk _ fs K _ X.out HKB.out rfl HFL.out rfl rfl rfl rfl rfl rfl ?_
  rintro a' w' ⟨f, vo, g9, h3⟩
  refine J5.out _ _ ?_
  rw [lit61 a' f]
  simp only [g9]
  clear f g9
  refine wp_seq_k (fun K6 k6 => ?_)
  have J6 := Lib.hid k6
  clear k6
  go_wp2
  refine J6.out _ _ ?_
  go_wp2
  go_ret
  refine ⟨vo, rfl, h3.out.1, h3.out.2.1, ?_⟩
  cases hb : vo.ownBlock with
  | none => exact .inl rfl
  | some b => exact .inr ⟨b, rfl, h3.out.2.2 b hb⟩
set_option maxHeartbeats 1000000 in
set_option maxRecDepth 100000 in
/-- impl.Expand. -/
theorem iExpand (kt : List UInt32) (k s bl : Int) (prk : By) (fs : ByteArray) (K : Nat) (v : Value) (w : World) (hK : KIs w kt) (hv : Rd w v prk) (hkl : prk.length ≤ 549755813888) (hfl : fs.size ≤ 2147483647) (hKb : K ≤ 255 * szK k s bl) :
    Calls Try.prog 31 #[.agg #[.int .i64 k, .int .i64 s, .int .i64 bl], v, .string fs, .int .i64 (K : Int)] w (BYE w (expand (kindOf kt k s bl) prk fs.data.toList K)) := by
  rw [← kind_size kt] at hKb
  have HV := Lib.hid hv
  have HKL := Lib.hid hkl
  have HFL := Lib.hid hfl
  have HKB := Lib.hid hKb
  have HK := Lib.hid hK
  clear hv hkl hK hfl hKb
  go_enter Try.func31, Try.ntmps31
  refine wp_seq_k (fun K0 k0 => ?_)
  have J0 := Lib.hid k0
  clear k0
  go_wp2
  generalize hW1 : World.alloc _ _ = W1
  have R1 : Row W1 w.heap.size 23 [.int .i64 k, .int .i64 s, .int .i64 bl] := by rw [← hW1]; exact Row.new w 23 _
  have T1 : Hid (Tch [] w W1) := by rw [← hW1]; exact Tch.alloc _ _
  have c0 : W1.cell? ⟨w.heap.size, 0, none⟩ = some (.int .i64 k) := by rw [R1.cell]; rfl
  have c1 : W1.cell? ⟨w.heap.size, 1, none⟩ = some (.int .i64 s) := by rw [R1.cell]; rfl
  have c2 : W1.cell? ⟨w.heap.size, 2, none⟩ = some (.int .i64 bl) := by rw [R1.cell]; rfl
  clear hW1 R1
  obtain ⟨c, hc⟩ : ∃ c, c = w.heap.size := ⟨_, rfl⟩
  rw [← hc] at c0 c1 c2 ⊢
  clear hc
  by_cases hk : k = 1
  · subst hk
    rw [kind_sha] at HKB
    refine J0.out _ _ (wp_seq_k (fun K1 k1 => ?_))
    have J1 := Lib.hid k1
    clear k1
    go_wp2_with (fail)
    refine (iCopied v prk W1 (HV.out.tchNil T1.out) (by have := HKL.out; omega)).mono ?_
    rintro e W2 ⟨v2, rfl, h2⟩
    have T2 : Hid (Tch [] w W2) := T1.out.trans h2.out.1.tchNil
    go_wp2_with (fail)
    refine (kExpandD kt prk fs K v2 W2 (HK.out.tch T2.out (by simp)) h2.out.1.1.rd h2.out.1.1.nm h2.out.1.1.lt HKL.out HFL.out HKB.out).mono ?_
    rintro e W4 ⟨v4, rfl, h4⟩
    go_wp2
    go_ret
    rw [kind_sha]
    exact BYE.earlier ⟨v4, rfl, h4⟩ T2.out
  · have hkb : (k == 1) = false := by simpa using hk
    rw [bad_kind kt k s bl hk] at HKB
    refine J0.out _ _ (wp_seq_k (fun K1 k1 => ?_))
    have J1 := Lib.hid k1
    clear k1
    have hmf : ∀ (fn : Fn) (first cap : Array Value) (w : World), (Instr.makeFunc fn first cap).run Try.prog w = .ok (.func fn first cap) w := fun _ _ _ _ => rfl
    have KA : Hid (∀ w', Tch [] W1 w' → (w'.cell? ⟨c, 0, none⟩ = some (.int .i64 k) ∧ w'.cell? ⟨c, 1, none⟩ = some (.int .i64 s) ∧ w'.cell? ⟨c, 2, none⟩ = some (.int .i64 bl))) := fun w' h => ⟨h.cell c0 (by simp), h.cell c1 (by simp), h.cell c2 (by simp)⟩
    go_wp2
    refine J1.out _ _ (wp_seq_k (fun K2 k2 => ?_))
    have J2 := Lib.hid k2
    clear k2
    go_region_held3 (fun w' => w'.cell? ⟨c, 0, none⟩ = some (.int .i64 k) ∧ w'.cell? ⟨c, 1, none⟩ = some (.int .i64 s) ∧ w'.cell? ⟨c, 2, none⟩ = some (.int .i64 bl)) (exact KA.out _ (by first | exact Tch.drewN W1 1 | exact t2 | exact t4)) (first | (go_at_call 45; refine (iCopied v prk W1.drew (HV.out.tchNil (T1.out.trans (Tch.drewN W1 1))) (by have := HKL.out; omega)).mono ?_; rintro e W2 ⟨v2, rfl, h2⟩; have t2 : Tch [] W1 W2 := (Tch.drewN W1 1).trans h2.out.1.tchNil) | (go_at_call 53; refine (kExpandO kt k s bl prk fs K v2 W2 (HK.out.tch (T1.out.trans t2) (by simp)) h2.out.1.1.rd h2.out.1.1.nm h2.out.1.1.lt HKL.out HFL.out HKB.out).mono ?_; rintro e W4 ⟨v4, rfl, h4⟩; have t4 : Tch [] W1 W4 := t2.trans h4.out.2.1))
    all_goals (go_wp2; refine J2.out _ _ ?_; go_wp2; go_ret; rw [bad_kind kt k s bl hk]; exact BYE.earlier ⟨v4, rfl, h4⟩ (T1.out.trans t2))
end Go.Proofs.Ytgomodhhomekpaa
