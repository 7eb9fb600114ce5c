/-
  impl.mac.
-/
import Derived.Test.YtgomodhhomekpaaHq
namespace Go.Proofs.Ytgomodhhomekpaa
open Go.RowKit Pu Ar
theorem HNE.earlier {w w1 w' : World} {hk : Pu.HK} {key : By} {e : Ending} (h : HNE w1 hk key e w') (k : Tch [] w w1) : HNE w hk key e w' := by
  obtain ⟨F, rfl, h1⟩ := h
  refine ⟨F, rfl, h1.out.1, h1.out.2.1, k.trans h1.out.2.2.1, ?_⟩
  intro b hb
  rcases h1.out.2.2.2 b hb with h | h
  · exact .inl h
  · exact .inr (Nat.le_trans k.size h)
theorem KIs.lt {w : World} {kt : List UInt32} (h : KIs w kt) : 0 < w.heap.size := h.2.lt
set_option maxHeartbeats 1000000 in
set_option maxRecDepth 100000 in
theorem iMac0 (kt : List UInt32) (k s bl : Int) (key : By) (v : Value) (w : World) (hK : KIs w kt) (hv : Rd w v key) (hl : key.length ≤ 1099511627776) :
    Calls Try.prog 43 #[.agg #[.int .i64 k, .int .i64 s, .int .i64 bl], v] w (HNE w (kindOf kt k s bl) key) := by
  have HV := Lib.hid hv
  have HL := Lib.hid hl
  have HK := Lib.hid hK
  clear hv hl hK
  go_enter Try.func43, Try.ntmps43
  refine wp_seq_k (fun K0 k0 => ?_)
  have J0 := Lib.hid k0
  clear k0
  go_wp2
  generalize hW1 : World.alloc _ _ = W1
  have R1 : Row W1 w.heap.size 23 [.int .i64 k, .int .i64 s, .int .i64 bl] := by rw [← hW1]; exact Row.new w 23 _
  have T1 : Hid (Tch [] w W1) := by rw [← hW1]; exact Tch.alloc _ _
  have c0 : W1.cell? ⟨w.heap.size, 0, none⟩ = some (.int .i64 k) := by rw [R1.cell]; rfl
  have c1 : W1.cell? ⟨w.heap.size, 1, none⟩ = some (.int .i64 s) := by rw [R1.cell]; rfl
  have c2 : W1.cell? ⟨w.heap.size, 2, none⟩ = some (.int .i64 bl) := by rw [R1.cell]; rfl
  have HR1 := Lib.hid R1
  clear hW1 R1
  obtain ⟨c, hc⟩ : ∃ c, c = w.heap.size := ⟨_, rfl⟩
  rw [← hc] at c0 c1 c2 HR1 ⊢
  clear hc
  by_cases hk : k = 1
  · subst hk
    refine J0.out _ _ (wp_seq_k (fun K1 k1 => ?_))
    have J1 := Lib.hid k1
    clear k1
    go_wp2_with (fail)
    refine (iCopied v key W1 (HV.out.tch T1.out (by intro i _; simp)) (by have := HL.out; omega)).mono ?_
    rintro e W2 ⟨v2, rfl, h2⟩
    go_wp2_with (fail)
    refine (hmNewD kt key v2 W2 (HK.out.tch (T1.out.trans h2.out.1.tchNil) (by simp)) h2.out.1.1.rd h2.out.1.1.nm h2.out.1.1.lt HL.out).mono ?_
    rintro e W3 ⟨F, rfl, h3⟩
    go_wp2
    go_ret
    rw [kind_sha]
    exact HNE.earlier ⟨F, rfl, h3⟩ (T1.out.trans h2.out.1.tchNil)
  · have hkb : (k == 1) = false := by simpa using hk
    refine J0.out _ _ (wp_seq_k (fun K1 k1 => ?_))
    have J1 := Lib.hid k1
    clear k1
    have hmf : ∀ (fn : Fn) (first cap : Array Value) (w : World), (Instr.makeFunc fn first cap).run Try.prog w = .ok (.func fn first cap) w := fun _ _ _ _ => rfl
    go_wp2
    refine J1.out _ _ (wp_seq_k (fun K2 k2 => ?_))
    have J2 := Lib.hid k2
    clear k2
    go_region_held3 (fun w' => w'.cell? ⟨c, 0, none⟩ = some (.int .i64 k) ∧ w'.cell? ⟨c, 1, none⟩ = some (.int .i64 s) ∧ w'.cell? ⟨c, 2, none⟩ = some (.int .i64 bl)) (first | exact ⟨c0, c1, c2⟩ | exact KEEP2.out | exact KEEP3.out) (first | (go_at_call 45; refine (iCopied v key W1.drew (HV.out.tch (T1.out.trans (Tch.drewN W1 1)) (by intro i _; simp)) (by have := HL.out; omega)).mono ?_; rintro e W2 ⟨v2, rfl, h2⟩; have KEEP2 : Hid (W2.cell? ⟨c, 0, none⟩ = some (.int .i64 k) ∧ W2.cell? ⟨c, 1, none⟩ = some (.int .i64 s) ∧ W2.cell? ⟨c, 2, none⟩ = some (.int .i64 bl)) := ⟨h2.out.1.tchNil.cell c0 (by simp), h2.out.1.tchNil.cell c1 (by simp), h2.out.1.tchNil.cell c2 (by simp)⟩) | (go_at_call 65; refine (hmNewO k s bl key _ _ ((HK.out.tch ((T1.out.trans (Tch.drewN W1 1)).trans h2.out.1.tchNil) (by simp)).lt) h2.out.1.1.rd h2.out.1.1.nm h2.out.1.1.lt HL.out).mono ?_; rintro e W3 ⟨F, rfl, h3⟩; have KEEP3 : Hid (W3.cell? ⟨c, 0, none⟩ = some (.int .i64 k) ∧ W3.cell? ⟨c, 1, none⟩ = some (.int .i64 s) ∧ W3.cell? ⟨c, 2, none⟩ = some (.int .i64 bl)) := ⟨h3.out.2.2.1.cell KEEP2.out.1 (by simp), h3.out.2.2.1.cell KEEP2.out.2.1 (by simp), h3.out.2.2.1.cell KEEP2.out.2.2 (by simp)⟩))
    all_goals (go_wp2; refine J2.out _ _ ?_; go_wp2; go_ret; rw [bad_kind kt k s bl hk]; exact HNE.earlier ⟨F, rfl, h3⟩ ((T1.out.trans (Tch.drewN W1 1)).trans h2.out.1.tchNil))
end Go.Proofs.Ytgomodhhomekpaa
