/-
  spec.sha whole.
-/
import Derived.Test.YtgomodhhomekpaaDoorM4
import Derived.Test.YtgomodhhomekpaaDoorZd
import Derived.Test.YtgomodhhomekpaaDoorSb
namespace Go.Proofs.YtgomodhhomekpaaDoor
open Go.RowKit Pu Ar
def SHCP (a : Act) (w : World) (hb : Nat) (s : S8) (at' : Nat) (a' : Act) (w' : World) : Prop :=
  Frm 76 a' ∧ Same [0, 3, 4] a a' ∧ G a' 7 = .int .i64 (at' : Int) ∧ Hid (Row w' hb 47 (s8c s) ∧ Tch [hb] w w')
set_option maxHeartbeats 1000000 in
set_option maxRecDepth 100000 in
theorem shCRound (a : Act) (w : World) (h : Frm 76 a) (Q : Exit → Act → World → Prop) (L : By) (v : Value) (s : S8) (hb i lo hi : Nat)
    (hv : Rd w v L) (hn : Nm v) (hoff : Off [hb] v) (hR : Row w hb 47 (s8c s)) (hlo : lo = 64 * i) (hhi : hi = lo + 64) (hle : hi ≤ L.length) (hlen : L.length ≤ 10000000)
    (g3 : G a 3 = .pointer (some ⟨hb, 0, none⟩)) (g4 : G a 4 = v) (g7 : G a 7 = .int .i64 (lo : Int))
    (hQ : ∀ a' w', SHCP a w hb (comp kc s ((L.drop lo).take 64)) hi a' w' → Q .normal a' w') :
    (part (bodyOf Tryd.f19) [true, true, true, true, true, true, true, false, true, false, false]).wp Tryd.prog Q a w := by
  obtain ⟨q, cap, rfl⟩ : ∃ p cap, v = .slice p L.length cap := by obtain ⟨p, cap, hv, _⟩ := hv; exact ⟨p, cap, hv⟩
  have hcap : L.length ≤ cap := by obtain ⟨p, c, e, hc, _⟩ := hv; simp only [Value.slice.injEq] at e; obtain ⟨_, _, rfl⟩ := e; exact hc
  have hll : (L.length : Int) ≤ 10000000 := by omega
  have hlt : (lo : Int) < L.length := by omega
  have eH : (lo : Int) + 64 = (hi : Int) := by omega
  have wH : IntKind.i64.wrap (hi : Int) = hi := by rw [IntKind.wrap_i64]; omega
  have bH : (hi : Int) ≤ 10000000 := by omega
  have hs1 := fun w => run_mid w _ L.length cap lo hi q rfl hn (by omega) (by omega)
  obtain ⟨hm1, hm2⟩ := mid_rd hv hn lo hi (by omega) hle
  have hmo : Off [hb] (mid (.slice q L.length cap) lo hi) := by
    intro b hb' hm
    refine hoff b ?_ hm
    cases q with
    | none => simp [mid, cut, upto, Value.ownBlock] at hb'
    | some ad => simp [mid, cut, upto, Value.ownBlock] at hb' ⊢; exact hb'
  have ebl : (L.take hi).drop lo = (L.drop lo).take 64 := by rw [List.drop_take]; congr 1; omega
  rw [ebl] at hm1
  obtain ⟨B, hB⟩ : ∃ B, B = (L.drop lo).take 64 := ⟨_, rfl⟩
  have hBl : B.length = 64 := by rw [hB, List.length_take, List.length_drop]; omega
  rw [← hB] at hm1 hQ
  obtain ⟨X, hX⟩ : ∃ X, X = comp kc s B := ⟨_, rfl⟩
  rw [← hX] at hQ
  obtain ⟨qm, nm, cm, hqm⟩ : ∃ q' n c, mid (.slice q L.length cap) lo hi = .slice q' n c := by cases q <;> exact ⟨_, _, _, rfl⟩
  rw [hqm] at hs1 hm1 hmo
  have HM := Lib.hid hm1
  have HMO := Lib.hid hmo
  have HBL := Lib.hid hBl
  have HX := Lib.hid hX
  have HR := Lib.hid hR
  have c0 : w.cell? ⟨hb, 0, none⟩ = some (.int .u32 (iw s.a)) := by rw [HR.out.cell]; rfl
  have c1 : w.cell? ⟨hb, 1, none⟩ = some (.int .u32 (iw s.b)) := by rw [HR.out.cell]; rfl
  have c2 : w.cell? ⟨hb, 2, none⟩ = some (.int .u32 (iw s.c)) := by rw [HR.out.cell]; rfl
  have c3 : w.cell? ⟨hb, 3, none⟩ = some (.int .u32 (iw s.d)) := by rw [HR.out.cell]; rfl
  have c4 : w.cell? ⟨hb, 4, none⟩ = some (.int .u32 (iw s.e)) := by rw [HR.out.cell]; rfl
  have c5 : w.cell? ⟨hb, 5, none⟩ = some (.int .u32 (iw s.f)) := by rw [HR.out.cell]; rfl
  have c6 : w.cell? ⟨hb, 6, none⟩ = some (.int .u32 (iw s.g)) := by rw [HR.out.cell]; rfl
  have c7 : w.cell? ⟨hb, 7, none⟩ = some (.int .u32 (iw s.h)) := by rw [HR.out.cell]; rfl
  conv => arg 2; whnf
  rw [lit76 a h]
  have E3 := Lib.hid g3
  have E4 := Lib.hid g4
  simp only [g3, g4, g7]
  clear h g3 g4 g7 hv hn hoff hR hlo hhi hle hlen hcap hm1 hm2 hmo ebl hB hBl hX hqm
  refine wp_seq_k (fun K0 k0 => ?_)
  have J0 := Lib.hid k0
  clear k0
  go_wp2
  refine J0.out _ _ ?_
  refine wp_seq_k (fun K1 k1 => ?_)
  have J1 := Lib.hid k1
  clear k1 J0
  refine wp_block ?_
  refine wp_region_quiet_tail 6 (by kernel_rfl) (by kernel_rfl) ?_
  simp only [List.take_succ_cons, List.take_zero, List.drop_succ_cons, List.drop_zero]
  repeat (go_big_quiet_step (fail))
  refine wpQuiet_nil ?_
  go_wp2_with (fail)
  refine (sShaBlock s B (.slice qm nm cm) _ (HM.out.tch (Tch.drewN w 1) HMO.out) HBL.out).mono ?_
  rintro e w2 ⟨rfl, h2⟩
  rw [← HX.out]
  have t2 : Tch [] w w2 := (Tch.drewN w 1).trans h2.out
  have R2 : Row w2 hb 47 (s8c s) := HR.out.tch t2 (by simp)
  go_wp2_with (refine wpList_store_row rfl 47 (.tmp 3) (.tmp 54) rfl hb ((s8c X).toArray) rfl rfl 47 _ R2 (by kernel_rfl) (by kernel_rfl) (by kernel_rfl) ?_)
  go_wp2
  refine J1.out _ _ ?_
  go_wp2
  have e3 := E3.out
  have e4 := E4.out
  refine ⟨⟨rfl, rfl⟩, ⟨rfl, e3.symm, e4.symm, trivial⟩, by first | rfl | (rw [← eH]; rfl), setRow_heap w2 hb _ _ 47 _ R2, (t2.mono (by simp)).trans (Tch.setRow _ _ _ (by simp))⟩
set_option maxRecDepth 100000 in
theorem shCLeave (a : Act) (w : World) (h : Frm 76 a) (Q : Exit → Act → World → Prop) (p : Option Addr) (n c : Nat) (g4 : G a 4 = .slice p n c) (g7 : G a 7 = .int .i64 (n : Int))
    (hQ : ∀ a' w', SHX [3] a w a' w' → Q (.exit 4) a' w') :
    (part (bodyOf Tryd.f19) [true, true, true, true, true, true, true, false, true, false, false]).wp Tryd.prog Q a w := by
  conv => arg 2; whnf
  rw [lit76 a h]
  simp only [g4, g7]
  clear h g4 g7
  go_wp2
  exact ⟨⟨rfl, rfl⟩, ⟨rfl, trivial⟩, rfl⟩
theorem shC_eq : part (bodyOf Tryd.f19) [true, true, true, true, true, true, true, false, true, false] = .loop (part (bodyOf Tryd.f19) [true, true, true, true, true, true, true, false, true, false, false]) := by kernel_rfl
structure SHCI (a0 : Act) (w0 : World) (L : By) (hb i : Nat) (a : Act) (w : World) : Prop where
  frm : Frm 76 a
  same : Same [0, 3, 4] a0 a
  le : 64 * i ≤ L.length
  g7 : G a 7 = .int .i64 ((64 * i : Nat) : Int)
  row : Row w hb 47 (s8c (blocksN kc i init L))
  tch : Tch [hb] w0 w
def SHCE (a : Act) (w : World) (hb : Nat) (s : S8) (a' : Act) (w' : World) : Prop := Frm 76 a' ∧ Same [3] a a' ∧ Hid (Row w' hb 47 (s8c s) ∧ Tch [hb] w w')
theorem shCLoop (a : Act) (w : World) (h : Frm 76 a) (Q : Exit → Act → World → Prop) (L : By) (v : Value) (hb : Nat)
    (hv : Rd w v L) (hn : Nm v) (hoff : Off [hb] v) (hR : Row w hb 47 (s8c init)) (hmod : L.length % 64 = 0) (hlen : L.length ≤ 10000000)
    (g3 : G a 3 = .pointer (some ⟨hb, 0, none⟩)) (g4 : G a 4 = v) (g7 : G a 7 = .int .i64 0)
    (hQ : ∀ a' w', SHCE a w hb (blocks kc init L) a' w' → Q (.exit 4) a' w') :
    (part (bodyOf Tryd.f19) [true, true, true, true, true, true, true, false, true, false]).wp Tryd.prog Q a w := by
  rw [shC_eq]
  refine wp_loop (fun a' w' => ∃ i, SHCI a w L hb i a' w') (fun a' _ => L.length - (intOf (G a' 7)).toNat) ⟨0, h, by simp [Same], by omega, g7, hR, Tch.refl _ _⟩ ?_
  rintro a1 w1 ⟨i, I⟩
  by_cases hi : 64 * i < L.length
  · refine shCRound a1 w1 I.frm _ L v _ hb i (64 * i) (64 * i + 64) (hv.tch I.tch hoff) hn hoff I.row rfl rfl (by omega) hlen ((I.same.get 3 rfl).trans g3) ((I.same.get 4 rfl).trans g4) I.g7 ?_
    rintro a' w' ⟨p1, p2, p3, p4⟩
    simp only [Exit.then]
    have e : comp kc (blocksN kc i init L) ((L.drop (64 * i)).take 64) = blocksN kc (i + 1) init L := by rw [blocksN_add]; rfl
    rw [e] at p4
    refine ⟨⟨i + 1, p1, ?_, by omega, by rw [p3]; congr 1, p4.out.1, I.tch.trans p4.out.2⟩, ?_⟩
    · have s := I.same
      simp only [Same] at s p2 ⊢
      simp only [p2, s, and_self]
    · rw [p3, I.g7]; simp [intOf]; omega
  · have hi' : L.length = 64 * i := by have := I.le; omega
    obtain ⟨p, cap, hv'⟩ : ∃ p cap, v = .slice p L.length cap := by obtain ⟨p, cap, hv, _⟩ := hv; exact ⟨p, cap, hv⟩
    refine shCLeave a1 w1 I.frm _ p L.length cap ((I.same.get 4 rfl).trans (g4.trans hv')) (by rw [I.g7, hi']) ?_
    rintro a' w' ⟨p1, p2, rfl⟩
    simp only [Exit.then]
    have r := I.row
    have e : blocksN kc i init L = blocks kc init L := by unfold blocks; rw [hi']; congr 1; omega
    rw [e] at r
    refine hQ _ _ ⟨p1, ?_, r, I.tch⟩
    have s := I.same
    simp only [Same] at s p2 ⊢
    simp only [p2, s, and_self]
theorem own_empty (w : World) : Own (w.alloc (.cells #[] 5)) (.slice (some ⟨w.heap.size, 0, none⟩) 0 0) [] :=
  ⟨rfl, .inr ⟨w.heap.size, 0, #[], rfl, Nat.zero_le _, Row.new w 5 [], Nat.le_refl _, by unfold maxLen; omega, rfl, rfl⟩⟩
/-- The bytes so far, and the words that they will be taken into. -/
structure SHW (w W : World) (hb : Nat) (v : Value) (L : By) : Prop where
  own : Own W v L
  tch : Tch [] w W
  row : Row W hb 47 (s8c init)
  nb : ∀ b, v.ownBlock = some b → hb < b
  hbw : w.heap.size ≤ hb
theorem SHW.grow {w W W' : World} {hb : Nat} {v v' : Value} {L L' : By} (h : SHW w W hb v L) (k : Grew W W' v v' L') : SHW w W' hb v' L' := by
  have hbw := h.hbw
  refine ⟨k.1, h.tch.new k.2.1 ?_, h.row.tch k.2.1 ?_, ?_, hbw⟩
  · intro i hi
    right
    have := h.nb i (by simpa using hi)
    omega
  · intro hm
    have := h.nb hb (by simpa using hm)
    omega
  · intro b hb'
    rcases k.2.2 with e | ⟨g, e, hg⟩
    · rw [e] at hb'; exact h.nb b hb'
    · rw [e] at hb'; simp only [Option.some.injEq] at hb'; have := h.row.lt; omega
theorem SHW.off {w W : World} {hb : Nat} {v : Value} {L : By} (h : SHW w W hb v L) : Off [hb] v := by
  intro b hb' hm
  rw [List.mem_singleton.1 hm] at hb'
  have := h.nb hb hb'
  omega
theorem grew_app {w W W' : World} {v v' : Value} {L : By} {o : Obj} (hW : W = w.alloc o) (h1 : Own W' v' L) (h2 : Tch v.ownBlock.toList W W') (h3 : v'.ownBlock = v.ownBlock ∨ ∃ g, v'.ownBlock = some g ∧ W.heap.size ≤ g) : Grew w W' v v' L := by
  subst hW
  refine ⟨h1, (Tch.alloc _ _).trans h2, ?_⟩
  rcases h3 with h | ⟨g, h, hg⟩
  · exact .inl h
  · exact .inr ⟨g, h, by rw [World.size_alloc] at hg; omega⟩
theorem bits_len (n : Nat) (h : n ≤ 2147483647) : 8 * (n : Int) = iq (UInt64.ofNat n <<< 3) := by
  unfold iq
  rw [UInt64.toNat_shiftLeft, UInt64.toNat_ofNat']
  have h1 : n % 2 ^ 64 = n := Nat.mod_eq_of_lt (by omega)
  have h2 : (3 : UInt64).toNat % 64 = 3 := rfl
  rw [h1, h2, Nat.shiftLeft_eq]
  omega
theorem init_words : (#[.int .u32 1779033703, .int .u32 3144134277, .int .u32 1013904242, .int .u32 2773480762, .int .u32 1359893119, .int .u32 2600822924, .int .u32 528734635, .int .u32 1541459225] : Array Value) = (s8c init).toArray := by kernel_rfl
set_option maxHeartbeats 1000000 in
set_option maxRecDepth 100000 in
/-- spec.sha. -/
theorem sSha (l : By) (v : Value) (w : World) (hv : Rd w v l) (hl : l.length ≤ 2147483) :
    Calls Tryd.prog 19 #[v] w fun e w' => ∃ v', e = .returned v' ∧ Hid (Grew w w' (.slice none 0 0) v' (Pu.sha kc l)) := by
  obtain ⟨q, cap, hve⟩ : ∃ p cap, v = .slice p l.length cap := by obtain ⟨p, cap, hv, _⟩ := hv; exact ⟨p, cap, hv⟩
  have HV := Lib.hid hv
  have HL := Lib.hid hl
  have ill : (l.length : Int) ≤ 2147483 := by omega
  have hbits := bits_len l.length (by omega)
  have HBITS := Lib.hid hbits
  clear hv hl hbits
  subst hve
  go_enter Tryd.func19, Tryd.ntmps19
  refine wp_seq_k (fun K0 k0 => ?_)
  have J0 := Lib.hid k0
  clear k0
  go_wp2
  refine J0.out _ _ ?_
  refine wp_seq_k (fun K1 k1 => ?_)
  have J1 := Lib.hid k1
  clear k1 J0
  go_wp2
  generalize hW1 : World.alloc _ _ = W1
  have R1 : Hid (Row W1 w.heap.size 47 (s8c init)) := by rw [← hW1]; exact Row.new w 47 (s8c init)
  have T1 : Hid (Tch [] w W1) := by rw [← hW1]; exact Tch.alloc _ _
  clear hW1
  obtain ⟨hb, hhb⟩ : ∃ hb, hb = w.heap.size := ⟨_, rfl⟩
  rw [← hhb] at R1 ⊢
  have HHB := Lib.hid hhb
  clear hhb
  refine J1.out _ _ ?_
  refine wp_seq_k (fun K2 k2 => ?_)
  have J2 := Lib.hid k2
  clear k2 J1
  have OE : Hid (Own (W1.alloc (.cells #[] 5)) (.slice (some ⟨W1.heap.size, 0, none⟩) 0 0) []) := own_empty W1
  go_wp2_with (refine wpList_append_by rfl _ _ rfl _ _ [] l rfl rfl OE.out (HV.out.tch (T1.out.trans (Tch.alloc _ _)) (by intro i _; simp)) (by have := HL.out; simp; omega) ?_)
  intro v2 W2 h2
  go_wp2
  have S2 : Hid (SHW w W2 hb v2 l) := by
    obtain ⟨o1, o2, _, o4⟩ := h2.out
    have z1 : hb < W1.heap.size := R1.out.lt
    have z2 := T1.out.size
    refine ⟨by simpa using o1, (T1.out.trans (Tch.alloc _ _)).new o2 ?_, (R1.out.alloc _).tch o2 ?_, ?_, by rw [HHB.out]; exact Nat.le_refl _⟩
    · intro i hi
      right
      have : i = W1.heap.size := by simpa [Value.ownBlock] using hi
      omega
    · intro hm
      have : hb = W1.heap.size := by simpa [Value.ownBlock] using hm
      omega
    · intro b hb'
      rcases o4 with e | ⟨g, e, hg⟩
      · rw [e] at hb'; simp only [Value.ownBlock, Option.some.injEq] at hb'; omega
      · rw [e] at hb'; simp only [Option.some.injEq] at hb'; omega
  clear h2 OE R1 T1
  refine J2.out _ _ ?_
  refine wp_seq_k (fun K3 k3 => ?_)
  have J3 := Lib.hid k3
  clear k3 J2
  obtain ⟨p2, c2, hv2⟩ := own_ex0 S2.out.own
  have R80 : Hid (Rd (W2.alloc (.cells #[.int .u8 128] 5)) (.slice (some ⟨W2.heap.size, 0, none⟩) 1 1) [0x80]) := rd_new1 W2 0x80
  subst hv2
  go_wp2_with (refine wpList_append_by rfl _ _ rfl _ _ l [0x80] rfl rfl (S2.out.own.tch (Tch.alloc (S := []) _ _) (by intro i _; simp)) R80.out (by have := HL.out; simp; omega) ?_)
  intro v3 W3 h3
  go_wp2
  have S3 : Hid (SHW w W3 hb v3 (l ++ [0x80])) := S2.out.grow (grew_app rfl h3.out.1 h3.out.2.1 (by rw [World.size_alloc]; exact h3.out.2.2.2))
  clear h3 S2 R80
  refine J3.out _ _ ?_
  refine wp_seq_k (fun K4 k4 => ?_)
  have J4 := Lib.hid k4
  clear k4 J3
  refine wp_block ?_
  obtain ⟨n, hn⟩ : ∃ n, n = padN l.length - 1 := ⟨_, rfl⟩
  have HN := Lib.hid hn
  have hp : padN l.length = if l.length % 64 < 56 then 56 - l.length % 64 else 64 + 56 - l.length % 64 := rfl
  have HNB : Hid (n ≤ 128 ∧ (l.length + 1 + n) % 64 = 56 ∧ ∀ i, i < n → (l.length + 1 + i) % 64 ≠ 56) := by
    rw [hp] at hn
    show _ ∧ _ ∧ _
    split at hn
    · refine ⟨by omega, by omega, fun i hi => by omega⟩
    · refine ⟨by omega, by omega, fun i hi => by omega⟩
  clear hp hn
  refine shALoop _ W3 ⟨rfl, rfl⟩ _ (l ++ [0x80]) v3 n S3.out.own (by have := HL.out; have := HNB.out.1; simp; omega) (by have := HNB.out.2.1; simpa using this) (by have := HNB.out.2.2; simpa using this) rfl ?_
  rintro a4 W4 ⟨f4, sm4, v4, g4, h4⟩
  refine J4.out _ _ ?_
  have S4 : Hid (SHW w W4 hb v4 (l ++ [0x80] ++ List.replicate n 0)) := S3.out.grow h4.out
  have s0 : G a4 0 = .slice q l.length cap := sm4.get 0 rfl
  have s3 : G a4 3 = .pointer (some ⟨hb, 0, none⟩) := sm4.get 3 rfl
  rw [lit76 a4 f4]
  simp only [s0, s3, g4]
  clear f4 sm4 s0 s3 g4 h4 S3
  refine wp_seq_k (fun K5 k5 => ?_)
  have J5 := Lib.hid k5
  clear k5
  go_wp2
  refine J5.out _ _ ?_
  have eb : (8 : Int) * (l.length : Int) = iq (UInt64.ofNat l.length <<< 3) := HBITS.out
  simp only [eb]
  refine wp_seq_k (fun K6 k6 => ?_)
  have J6 := Lib.hid k6
  clear k6
  refine wp_seq_k (fun K16 k16 => ?_)
  have J16 := Lib.hid k16
  clear k16
  go_wp2
  refine J16.out _ _ (wp_block ?_)
  refine shBLoop _ W4 ⟨rfl, rfl⟩ _ _ v4 (UInt64.ofNat l.length <<< 3) S4.out.own (by have := HL.out; have := HNB.out.1; simp; omega) rfl rfl rfl ?_
  rintro a7 W7 ⟨f7, sm7, v7, g4, h7⟩
  refine J6.out _ _ ?_
  have eL : l ++ [(0x80 : UInt8)] ++ List.replicate n (0 : UInt8) ++ be64 (UInt64.ofNat l.length <<< 3) = l ++ padOf l.length := by rw [HN.out]; simp [padOf]
  have S7 : Hid (SHW w W7 hb v7 (l ++ padOf l.length)) := by have := S4.out.grow h7.out; rwa [eL] at this
  have s3 : G a7 3 = .pointer (some ⟨hb, 0, none⟩) := sm7.get 3 rfl
  rw [lit76 a7 f7]
  simp only [s3, g4]
  clear f7 sm7 s3 g4 h7 S4 eL eb
  refine wp_seq_k (fun K7 k7 => ?_)
  have J7 := Lib.hid k7
  clear k7
  refine wp_seq_k (fun K17 k17 => ?_)
  have J17 := Lib.hid k17
  clear k17
  go_wp2
  refine J17.out _ _ (wp_block ?_)
  refine shCLoop _ W7 ⟨rfl, rfl⟩ _ _ v7 hb S7.out.own.rd S7.out.own.nm S7.out.off S7.out.row (by rw [List.length_append]; exact padOf_length _) (by have := HL.out; have := HNB.out.1; have e := HN.out; simp [padOf, be64]; omega) rfl rfl rfl ?_
  rintro a8 W8 ⟨f8, sm8, h8⟩
  refine J7.out _ _ ?_
  obtain ⟨X, hX⟩ : ∃ X, X = blocks kc init (l ++ padOf l.length) := ⟨_, rfl⟩
  rw [← hX] at h8
  have hsha : Pu.sha kc l = X.bytes := by unfold Pu.sha; rw [hX]
  have HSHA := Lib.hid hsha
  have R8 : Hid (Row W8 hb 47 (s8c X)) := h8.out.1
  have T8 : Hid (Tch [] w W8) := S7.out.tch.new h8.out.2 (by intro i hi; right; rw [List.mem_singleton.1 hi]; exact S7.out.hbw)
  have s3 : G a8 3 = .pointer (some ⟨hb, 0, none⟩) := sm8.get 3 rfl
  rw [lit76 a8 f8]
  simp only [s3]
  clear f8 sm8 s3 h8 S7 hX hsha
  refine wp_seq_k (fun K8 k8 => ?_)
  have J8 := Lib.hid k8
  clear k8
  go_wp2
  generalize hW9 : World.alloc _ _ = W9
  have O9 : Hid (Own W9 (.slice (some ⟨W8.heap.size, 0, none⟩) 0 0) []) := by rw [← hW9]; exact own_empty W8
  have R9 : Hid (Row W9 hb 47 (s8c X)) := by rw [← hW9]; exact R8.out.alloc _
  have T9 : Hid (Tch [] w W9) := by rw [← hW9]; exact T8.out.trans (Tch.alloc _ _)
  have Z9 : Hid (w.heap.size ≤ W8.heap.size) := T8.out.size
  clear hW9 R8 T8
  refine J8.out _ _ ?_
  refine wp_seq_k (fun K9 k9 => ?_)
  have J9 := Lib.hid k9
  clear k9 J8
  refine wp_seq_k (fun K18 k18 => ?_)
  have J18 := Lib.hid k18
  clear k18
  go_wp2_with (first | (refine wpList_load_row rfl 47 (.tmp 3) rfl hb rfl 47 (s8c X).toArray (0, 0) _ R9.out Tryd.underlying47 rfl (by kernel_rfl) ?_) | fail)
  refine J18.out _ _ (wp_block ?_)
  refine shDLoop _ W9 ⟨rfl, rfl⟩ _ _ X O9.out rfl rfl rfl ?_
  rintro a10 W10 ⟨f10, sm10, v10, g8, h10⟩
  refine J9.out _ _ ?_
  rw [lit76 a10 f10]
  simp only [g8]
  clear f10 sm10 g8
  refine wp_seq_k (fun K10 k10 => ?_)
  have J10 := Lib.hid k10
  clear k10
  go_wp2
  refine J10.out _ _ ?_
  go_wp2
  go_ret
  refine ⟨v10, rfl, ?_, ?_, ?_⟩
  · rw [HSHA.out]; exact h10.out.1
  · refine T9.out.new h10.out.2.1 ?_
    intro i hi
    right
    have : i = W8.heap.size := by simpa [Value.ownBlock] using hi
    have := Z9.out
    omega
  · right
    rcases h10.out.2.2 with e | ⟨g, e, hg⟩
    · exact ⟨W8.heap.size, e, Z9.out⟩
    · exact ⟨g, e, Nat.le_trans T9.out.size hg⟩
end Go.Proofs.YtgomodhhomekpaaDoor
