/-
  A part of what this claim leans on: Km, Ex, Jo. No conditions of its own.
-/
import Derived.Lib.SliceRun
import Derived.Test.YtgomodhhomekpaaM5
/-
  An HMAC under a key, whichever way its state is kept: Write, Sum, Reset, Size, BlockSize, the mark.
-/
namespace Go.Proofs.Ytgomodhhomekpaa
open Go.RowKit Pu Ar
/-- An HMAC under the key that has taken in l. -/
def KM (w : World) (hk : Pu.HK) (F : HF) (key l : By) : Prop :=
  (MacAt w hk F (opad hk key) (ipad hk key) (ipad hk key ++ l) ∧ F.mar = false) ∨
  ∃ kt, hk = .sha kt ∧ F.mar = true ∧ MacAt w hk F (marsh (blocks kt init (opad hk key)) (opad hk key).length) (marsh (blocks kt init (ipad hk key)) (ipad hk key).length) (ipad hk key ++ l)
theorem KM.at {w : World} {hk : Pu.HK} {F : HF} {key l : By} (h : KM w hk F key l) : ∃ o i, MacAt w hk F o i (ipad hk key ++ l) := by
  rcases h with ⟨h, _⟩ | ⟨_, _, _, h⟩
  · exact ⟨_, _, h⟩
  · exact ⟨_, _, h⟩
theorem KM.ok {w : World} {hk : Pu.HK} {F : HF} {key l : By} (h : KM w hk F key l) : hk.ok := by obtain ⟨_, _, h⟩ := h.at; exact h.ok
theorem KM.lt {w : World} {hk : Pu.HK} {F : HF} {key l : By} (h : KM w hk F key l) : ∀ b ∈ F.all, b < w.heap.size := by obtain ⟨_, _, h⟩ := h.at; exact h.lt
theorem KM.tch {S : List Nat} {w w' : World} {hk : Pu.HK} {F : HF} {key l : By} (h : KM w hk F key l) (k : Tch S w w') (hS : ∀ b ∈ F.all, b ∉ S) : KM w' hk F key l := by
  rcases h with ⟨h, m⟩ | ⟨kt, e, m, h⟩
  · exact .inl ⟨h.tch k hS, m⟩
  · exact .inr ⟨kt, e, m, h.tch k hS⟩
theorem KM.tchNil {w w' : World} {hk : Pu.HK} {F : HF} {key l : By} (h : KM w hk F key l) (k : Tch [] w w') : KM w' hk F key l := h.tch k (by simp)
theorem kmNew {w0 w : World} {hk : Pu.HK} {key : By} {e : Ending} (h : HNE w0 hk key e w) :
    ∃ F : HF, e = .returned (.pointer (some ⟨F.m, 0, none⟩)) ∧ Hid (KM w hk F key [] ∧ Tch [] w0 w ∧ ∀ b ∈ F.all, b = 0 ∨ w0.heap.size ≤ b) := by
  obtain ⟨F, he, hh⟩ := h
  exact ⟨F, he, .inl ⟨by rw [List.append_nil]; exact hh.out.1, hh.out.2.1⟩, hh.out.2.2.1, hh.out.2.2.2⟩
theorem kmWrite (hk : Pu.HK) (F : HF) (key l p : By) (v : Value) (w : World) (h : KM w hk F key l) (hv : Rd w v p) (hn : Nm v) (hoff : Off [F.bi, F.si] v) (hlen : (l ++ p).length ≤ 549755813888) :
    Calls Try.prog 44 #[.pointer (some ⟨F.m, 0, none⟩), v] w fun e w' => e = .returned (.tuple #[.int .i64 p.length, .nilIface]) ∧ Hid (KM w' hk F key (l ++ p) ∧ Tch [F.bi, F.si] w w') := by
  have hb : (ipad hk key ++ l ++ p).length ≤ 1099511627776 := by
    rw [List.append_assoc, List.length_append, ipad_length h.ok]; have := h.ok.block_le; omega
  rcases h with ⟨h, m⟩ | ⟨kt, e, m, h⟩
  · refine (macWrite hk F _ _ _ p v w h hv hn hoff hb).mono ?_
    rintro e w' ⟨rfl, h1⟩
    exact ⟨rfl, .inl ⟨by rw [← List.append_assoc]; exact h1.out.1, m⟩, h1.out.2⟩
  · refine (macWrite hk F _ _ _ p v w h hv hn hoff hb).mono ?_
    rintro e w' ⟨rfl, h1⟩
    exact ⟨rfl, .inr ⟨kt, by assumption, m, by rw [← List.append_assoc]; exact h1.out.1⟩, h1.out.2⟩
/-- What Sum leaves. -/
def KSE (hk : Pu.HK) (F : HF) (key l : By) (v : Value) (res : By) (w : World) (e : Ending) (w' : World) : Prop :=
  ∃ v', e = .returned v' ∧ Hid (Own w' v' res ∧ KM w' hk F key l ∧ Tch (F.bo :: F.so :: v.ownBlock.toList) w w' ∧ Off F.all v' ∧ (v'.ownBlock = v.ownBlock ∨ ∃ g, v'.ownBlock = some g ∧ w.heap.size ≤ g))
theorem kmSum (hk : Pu.HK) (F : HF) (key l xs : By) (v : Value) (w : World) (h : KM w hk F key l) (hv : Own w v xs) (hvf : Off F.all v) (hl : l.length ≤ 549755813888) (hx : xs.length + 64 ≤ 140737488355328) :
    Calls Try.prog 46 #[.pointer (some ⟨F.m, 0, none⟩), v] w (KSE hk F key l v (xs ++ mac hk key l) w) := by
  have hb : (ipad hk key ++ l).length ≤ 1099511627776 := by
    rw [List.length_append, ipad_length h.ok]; have := h.ok.block_le; omega
  have ho : (opad hk key).length ≤ 549755813888 := by
    rw [opad_length h.ok]; have := h.ok.block_le; omega
  rcases h with ⟨h, m⟩ | ⟨kt, rfl, m, h⟩
  · refine (macSum0 hk F _ _ _ xs v w h m hv hvf hb ho hx).mono ?_
    rintro e w' ⟨v', rfl, h1⟩
    exact ⟨v', rfl, h1.out.1, .inl ⟨h1.out.2.1, m⟩, h1.out.2.2.1, h1.out.2.2.2.1, h1.out.2.2.2.2⟩
  · have hok := h.ok
    refine (macSum1 kt F (opad (.sha kt) key) _ _ _ xs v w h m rfl (by rw [opad_length hok]; rfl) hv hvf hb ho hx).mono ?_
    rintro e w' ⟨v', rfl, h1⟩
    exact ⟨v', rfl, h1.out.1, .inr ⟨kt, rfl, m, h1.out.2.1⟩, h1.out.2.2.1, h1.out.2.2.2.1, h1.out.2.2.2.2⟩
/-- What Reset leaves. -/
def KRE (hk : Pu.HK) (F : HF) (key : By) (w : World) (e : Ending) (w' : World) : Prop :=
  e = .returned (.tuple #[]) ∧ ∃ F' : HF, Hid (KM w' hk F' key [] ∧ F'.m = F.m ∧ Tch [F.m, F.bo, F.so, F.bi, F.si] w w' ∧ ∀ b ∈ F'.all, b ∈ F.all ∨ w.heap.size ≤ b)
theorem kmReset (hk : Pu.HK) (F : HF) (key l : By) (w : World) (h : KM w hk F key l) :
    Calls Try.prog 60 #[.pointer (some ⟨F.m, 0, none⟩)] w (KRE hk F key w) := by
  have hok := h.ok
  have hi := ipad_length hok key
  have ho := opad_length hok key
  rcases h with ⟨h, m⟩ | ⟨kt, rfl, m, h⟩
  · cases hk with
    | sha kt =>
      refine (macReset0 kt F _ _ _ w h m hi ho).mono ?_
      rintro e w' ⟨rfl, F', h1⟩
      exact ⟨rfl, F', .inr ⟨kt, rfl, h1.out.2.1, by rw [List.append_nil]; exact h1.out.1⟩, h1.out.2.2.1, h1.out.2.2.2.1, h1.out.2.2.2.2⟩
    | own s bl =>
      refine (macResetO s bl F _ _ _ w h m (by rw [hi]; exact hok.block_le)).mono ?_
      rintro e w' ⟨rfl, h1⟩
      exact ⟨rfl, F, .inl ⟨by rw [List.append_nil]; exact h1.out.1, m⟩, rfl, h1.out.2.mono (by simp +contextual), fun b hb => .inl hb⟩
  · refine (macReset1 kt F _ _ (ipad (.sha kt) key) _ w h m rfl hi).mono ?_
    rintro e w' ⟨rfl, h1⟩
    exact ⟨rfl, F, .inr ⟨kt, rfl, m, by rw [List.append_nil]; exact h1.out.1⟩, rfl, h1.out.2.mono (by simp +contextual), fun b hb => .inl hb⟩
theorem KM.row {w : World} {hk : Pu.HK} {F : HF} {key l : By} (h : KM w hk F key l) : Row w F.m 95 (hmCells hk F.ov F.iv F.bo F.bi F.mar F.kdf F.n) := by obtain ⟨_, _, h⟩ := h.at; exact h.row
set_option maxRecDepth 100000 in
theorem kmMark (hk : Pu.HK) (F : HF) (key l : By) (w : World) (h : KM w hk F key l) :
    Calls Try.prog 68 #[.pointer (some ⟨F.m, 0, none⟩)] w fun e w' => e = .returned (.tuple #[]) ∧ Hid (KM w' hk { F with kdf := true } key l ∧ Tch [F.m] w w') := by
  have c5 : w.cell? ⟨F.m, 5, none⟩ = some (.bool F.kdf) := by rw [h.row.cell]; rfl
  have f5 := h.row.free 5
  have H := Lib.hid h
  clear h
  go_enter Try.func68, Try.ntmps68
  go_wp2
  go_end0
  have k : Tch [F.m] w (w.setCell ⟨F.m, 5, none⟩ (.bool true)) := Tch.setCell _ _ _ (by simp)
  have turn : ∀ o i, MacAt w hk F o i (ipad hk key ++ l) → MacAt (w.setCell ⟨F.m, 5, none⟩ (.bool true)) hk { F with kdf := true } o i (ipad hk key ++ l) := by
    intro o i M
    obtain ⟨lo, hlo⟩ := M.outer
    obtain ⟨a1, a2, a3, a4⟩ := M.m1
    obtain ⟨b1, b2, b3, b4, b5⟩ := M.k1
    exact ⟨M.ok, M.row.set 5 (.bool true), ⟨lo, hlo.tch k (by simp [b1]) (by simp [Ne.symm a1]) (by simp [Ne.symm a2])⟩, M.inner.tch k (by simp [b1]) (by simp [Ne.symm a3]) (by simp [Ne.symm a4]),
      M.ord.tch k (off_sub M.offo (by simp)), M.ird.tch k (off_sub M.offi (by simp)), M.onm, M.inm, fun b hb => Nat.lt_of_lt_of_le (M.olt b hb) k.size, fun b hb => Nat.lt_of_lt_of_le (M.ilt b hb) k.size, M.m1, M.k1, M.oi, M.offo, M.offi⟩
  refine ⟨rfl, ?_, k⟩
  rcases H.out with ⟨h, m⟩ | ⟨kt, e, m, h⟩
  · exact .inl ⟨turn _ _ h, m⟩
  · exact .inr ⟨kt, e, m, turn _ _ h⟩
set_option maxRecDepth 100000 in
theorem kmSize (hk : Pu.HK) (F : HF) (key l : By) (w : World) (h : KM w hk F key l) :
    Calls Try.prog 61 #[.pointer (some ⟨F.m, 0, none⟩)] w fun e w' => e = .returned (.int .i64 hk.size) ∧ w = w' := by
  have c2 : w.cell? ⟨F.m, 2, none⟩ = some (.iface (hT hk) (.pointer (some ⟨F.bo, 0, none⟩))) := by rw [h.row.cell]; rfl
  obtain ⟨_, _, M⟩ := h.at
  obtain ⟨lo, hlo⟩ := M.outer
  have HC := Lib.hid (hSize hk F.bo F.so lo w hlo)
  have e1 := mSize hk
  have e2 := cSize hk
  clear h M hlo lo
  go_enter Try.func61, Try.ntmps61
  go_wp2_with (fail)
  refine HC.out.mono ?_
  rintro e w' ⟨rfl, rfl⟩
  go_wp2
  go_ret
  exact ⟨rfl, rfl⟩
set_option maxRecDepth 100000 in
theorem kmBlock (hk : Pu.HK) (F : HF) (key l : By) (w : World) (h : KM w hk F key l) :
    Calls Try.prog 62 #[.pointer (some ⟨F.m, 0, none⟩)] w fun e w' => e = .returned (.int .i64 hk.block) ∧ w = w' := by
  have c3 : w.cell? ⟨F.m, 3, none⟩ = some (.iface (hT hk) (.pointer (some ⟨F.bi, 0, none⟩))) := by rw [h.row.cell]; rfl
  obtain ⟨_, _, M⟩ := h.at
  have HC := Lib.hid (hBlock hk F.bi F.si _ w M.inner)
  have e1 := mBlockSize hk
  have e2 := cBlockSize hk
  clear h M
  go_enter Try.func62, Try.ntmps62
  go_wp2_with (fail)
  refine HC.out.mono ?_
  rintro e w' ⟨rfl, rfl⟩
  go_wp2
  go_ret
  exact ⟨rfl, rfl⟩
end Go.Proofs.Ytgomodhhomekpaa

/-
  hkdf.Extract; impl.Extract.
-/
namespace Go.Proofs.Ytgomodhhomekpaa
open Go.RowKit Pu Ar
/-- What a call hands back that makes bytes of its own. -/
def BYE (w : World) (l : By) (e : Ending) (w' : World) : Prop := ∃ v', e = .returned v' ∧ Hid (Grew w w' (.slice none 0 0) v' l)
theorem BYE.earlier {w w1 w' : World} {l : By} {e : Ending} (h : BYE w1 l e w') (k : Tch [] w w1) : BYE w l e w' := by
  obtain ⟨v', he, h1⟩ := h
  refine ⟨v', he, h1.out.1, k.trans h1.out.2.1, ?_⟩
  rcases h1.out.2.2 with h | ⟨g, h, hg⟩
  · exact .inl h
  · exact .inr ⟨g, h, Nat.le_trans k.size hg⟩
/-- Blocks that are new since wb, the table aside. -/
def NewF (wb : World) (F : HF) : Prop := ∀ b ∈ F.all, b = 0 ∨ wb.heap.size ≤ b
theorem NewF.blk {wb w : World} {hk : Pu.HK} {F : HF} {key l : By} (h : NewF wb F) (k : KM w hk F key l) : wb.heap.size ≤ F.m ∧ wb.heap.size ≤ F.bo ∧ wb.heap.size ≤ F.so ∧ wb.heap.size ≤ F.bi ∧ wb.heap.size ≤ F.si := by
  obtain ⟨_, _, M⟩ := k.at
  have k1 := M.k1
  refine ⟨?_, ?_, ?_, ?_, ?_⟩
  · rcases h F.m (by simp [HF.all]) with h | h
    · exact absurd h.symm k1.1
    · exact h
  · rcases h F.bo (by simp [HF.all]) with h | h
    · exact absurd h.symm k1.2.1
    · exact h
  · rcases h F.so (by simp [HF.all]) with h | h
    · exact absurd h.symm k1.2.2.1
    · exact h
  · rcases h F.bi (by simp [HF.all]) with h | h
    · exact absurd h.symm k1.2.2.2.1
    · exact h
  · rcases h F.si (by simp [HF.all]) with h | h
    · exact absurd h.symm k1.2.2.2.2
    · exact h
theorem NewF.earlier {w w1 : World} {F : HF} (h : NewF w1 F) (k : w.heap.size ≤ w1.heap.size) : NewF w F := by
  intro b hb
  rcases h b hb with h | h
  · exact .inl h
  · exact .inr (Nat.le_trans k h)
/-- Only new blocks have turned. -/
theorem tchNew {S : List Nat} {wb w w' : World} (h : Tch [] wb w) (k : Tch S w w') (hS : ∀ b ∈ S, wb.heap.size ≤ b) : Tch [] wb w' := h.new k (fun i hi => .inr (hS i hi))
set_option maxRecDepth 100000 in
theorem exTailD (kt : List UInt32) (a : Act) (w0 w : World) (h : Frm 25 a) (secret key : By) (v u : Value) (hT : Tch [] w0 w) (hK : KIs w kt) (hv : Rd w v secret) (hvn : Nm v) (hvl : ∀ b, v.ownBlock = some b → b < w.heap.size)
    (hu : Rd w u key) (hun : Nm u) (hul : ∀ b, u.ownBlock = some b → b < w.heap.size) (hsl : secret.length ≤ 549755813888) (hkl : key.length ≤ 549755813888)
    (g0 : G a 0 = (.func (.func 49) #[] #[])) (g1 : G a 1 = v) (g2 : G a 2 = u) (g6 : G a 6 = .slice none 0 0) :
    (part (bodyOf Try.f54) [true, true]).wp Try.prog (bodyPost Try.prog Try.f54 (BYE w0 (mac (Pu.HK.sha kt) key secret))) a w := by
  conv => arg 2; whnf
  rw [lit25 a h]
  simp only [g0, g1, g2, g6]
  have HT := Lib.hid hT
  have HK := Lib.hid hK
  have HV := Lib.hid hv
  have HVN := Lib.hid hvn
  have HVL := Lib.hid hvl
  have HU := Lib.hid hu
  have HUN := Lib.hid hun
  have HUL := Lib.hid hul
  have HSL := Lib.hid hsl
  have HKL := Lib.hid hkl
  clear h g0 g1 g2 g6 hT hK hv hvn hvl hu hun hul hsl hkl
  refine wp_seq_k (fun K0 k0 => ?_)
  have J0 := Lib.hid k0
  clear k0
  go_wp2_with (fail)
  refine (hmNewD kt key u w HK.out HU.out HUN.out HUL.out (by have := HKL.out; omega)).mono ?_
  intro e W1 hn0
  obtain ⟨F, rfl, h1⟩ := kmNew hn0
  clear hn0
  have M1 := Lib.hid h1.out.1
  have T1 : Hid (Tch [] w W1) := h1.out.2.1
  have N1 : Hid (NewF w F) := h1.out.2.2
  clear h1
  go_wp2
  refine J0.out _ _ (wp_seq_k (fun K1 k1 => ?_))
  have J1 := Lib.hid k1
  clear k1
  go_wp2_with (fail)
  refine (kmMark (Pu.HK.sha kt) F key [] W1 M1.out).mono ?_
  rintro e W2 ⟨rfl, h2⟩
  obtain ⟨F2, hF2⟩ : ∃ F2, F2 = { F with kdf := true } := ⟨_, rfl⟩
  have M2 : Hid (KM W2 (Pu.HK.sha kt) F2 key []) := by rw [hF2]; exact h2.out.1
  have B1 := N1.out.blk M1.out
  have T2 : Hid (Tch [] w W2) := tchNew T1.out h2.out.2 (by intro b hb; rw [List.mem_singleton.1 hb]; exact B1.1)
  have N2 : Hid (NewF w F2) := by rw [hF2]; exact N1.out
  have em : F.m = F2.m := by rw [hF2]
  rw [em]
  clear h2 B1 hF2 em N1 M1 T1
  go_wp2
  refine J1.out _ _ (wp_seq_k (fun K2 k2 => ?_))
  have J2 := Lib.hid k2
  clear k2
  have B2 : Hid (w.heap.size ≤ F2.m ∧ w.heap.size ≤ F2.bo ∧ w.heap.size ≤ F2.so ∧ w.heap.size ≤ F2.bi ∧ w.heap.size ≤ F2.si) := N2.out.blk M2.out
  go_wp2_with (fail)
  refine (kmWrite (Pu.HK.sha kt) F2 key [] secret v W2 M2.out (HV.out.tchNil T2.out) HVN.out (by
    intro b hb hm
    have := HVL.out b hb
    have := B2.out
    simp only [List.mem_cons, List.not_mem_nil, or_false] at hm
    omega) (by have := HSL.out; simpa using this)).mono ?_
  rintro e W3 ⟨rfl, h3⟩
  have M3 : Hid (KM W3 (Pu.HK.sha kt) F2 key secret) := h3.out.1
  have T3 : Hid (Tch [] w W3) := tchNew T2.out h3.out.2 (by intro b hb; have := B2.out; simp only [List.mem_cons, List.not_mem_nil, or_false] at hb; omega)
  clear h3 M2 T2
  go_wp2
  refine J2.out _ _ (wp_seq_k (fun K3 k3 => ?_))
  have J3 := Lib.hid k3
  clear k3
  go_wp2_with (fail)
  refine (kmSum (Pu.HK.sha kt) F2 key secret [] (.slice none 0 0) W3 M3.out (Own.nil _) (by intro b hb; cases hb) HSL.out (by simp)).mono ?_
  rintro e W4 ⟨v4, rfl, h4⟩
  go_wp2
  refine J3.out _ _ ?_
  go_wp2
  go_ret
  refine ⟨v4, rfl, h4.out.1, (HT.out.trans T3.out).new h4.out.2.2.1 ?_, ?_⟩
  · intro i hi
    right
    have := B2.out
    have hi' : i = F2.bo ∨ i = F2.so := by simpa [Value.ownBlock] using hi
    have := HT.out.size
    rcases hi' with rfl | rfl <;> omega
  · rcases h4.out.2.2.2.2 with h | ⟨g, h, hg⟩
    · exact .inl h
    · exact .inr ⟨g, h, Nat.le_trans (HT.out.trans T3.out).size hg⟩
set_option maxRecDepth 100000 in
/-- hkdf.Extract. -/
theorem kExtractD (kt : List UInt32) (secret salt : By) (v u : Value) (w : World) (hK : KIs w kt) (hv : Rd w v secret) (hvn : Nm v) (hvl : ∀ b, v.ownBlock = some b → b < w.heap.size)
    (hu : Rd w u salt) (hun : Nm u) (hul : ∀ b, u.ownBlock = some b → b < w.heap.size) (hnil : u = .slice none 0 0 ↔ salt = []) (hsl : secret.length ≤ 549755813888) (hkl : salt.length ≤ 549755813888) :
    Calls Try.prog 54 #[(.func (.func 49) #[] #[]), v, u] w (BYE w (extract (Pu.HK.sha kt) secret salt)) := by
  have HK := Lib.hid hK
  have HV := Lib.hid hv
  have HVN := Lib.hid hvn
  have HVL := Lib.hid hvl
  have HU := Lib.hid hu
  have HUN := Lib.hid hun
  have HUL := Lib.hid hul
  have HSL := Lib.hid hsl
  have HKL := Lib.hid hkl
  clear hK hv hvn hvl hsl hkl
  by_cases h0 : salt = []
  · subst h0
    have hx0 : extract (Pu.HK.sha kt) secret [] = mac (Pu.HK.sha kt) (List.replicate (Pu.HK.size (Pu.HK.sha kt)) 0) secret := by unfold extract; rw [if_pos rfl]
    have hx := Lib.hid hx0
    clear hx0
    obtain rfl := hnil.2 rfl
    have eq1 : ∀ w, (binOp .eql 24 (.slice none 0 0) (.slice none 0 0)).run Try.prog w = .ok (.bool true) w := fun w => Lib.run_eql_slice_nil w 24 5 none 0 0 0 0 Try.underlying24
    have e1 := mSize (Pu.HK.sha kt)
    have e2 := cSize (Pu.HK.sha kt)
    clear hu hun hul hnil
    go_enter Try.func54, Try.ntmps54
    refine wp_seq_k (fun K0 k0 => ?_)
    have J0 := Lib.hid k0
    clear k0
    go_wp2
    refine J0.out _ _ (wp_seq_k (fun K1 k1 => ?_))
    have J1 := Lib.hid k1
    clear k1
    go_wp2_with (fail)
    refine (newD kt w HK.out).mono ?_
    rintro e W1 ⟨b, sb, rfl, h1⟩
    go_wp2_with (fail)
    refine (hSize (Pu.HK.sha kt) b sb [] W1 h1.out.1).mono ?_
    rintro e W2 ⟨rfl, rfl⟩
    obtain ⟨N, hN⟩ : ∃ N, N = Pu.HK.size (Pu.HK.sha kt) := ⟨_, rfl⟩
    rw [← hN]
    have hN32 : N ≤ 32 := by rw [hN]; exact Pu.HK.ok.size_le (show Pu.HK.ok (.sha kt) from trivial)
    rw [← hN] at hx
    have T1 : Hid (Tch [] w W1) := h1.out.2.1
    obtain ⟨W, hW⟩ : ∃ W, W = W1.alloc (.cells (List.replicate N (Value.int .u8 0)).toArray 5) := ⟨_, rfl⟩
    have hmk : (Instr.makeSlice 24 (.int .i64 (N : Int)) (.int .i64 (N : Int))).run Try.prog W1 = .ok (.slice (some ⟨W1.heap.size, 0, none⟩) N N) W := by
      rw [hW]; exact run_make_by N N (Nat.le_refl _) (by omega) W1
    have R : Hid (Rd W (.slice (some ⟨W1.heap.size, 0, none⟩) N N) (List.replicate N 0)) := by rw [hW]; exact rd_cells W1 (List.replicate N 0) _ N (by simp) (by simp; omega) (by simp [vb, ib])
    have TW : Hid (Tch [] w W) := by rw [hW]; exact T1.out.trans (Tch.alloc _ _)
    have LW : Hid (W1.heap.size < W.heap.size) := by rw [hW]; show W1.heap.size < (W1.alloc _).heap.size; rw [World.size_alloc]; omega
    clear hW h1 hN T1 e1 e2
    go_wp2
    refine J1.out _ _ ?_
    rw [hx.out]
    exact exTailD kt _ w W ⟨rfl, rfl⟩ secret (List.replicate N 0) v _ TW.out (HK.out.tch TW.out (by simp)) (HV.out.tchNil TW.out) HVN.out (fun b hb => Nat.lt_of_lt_of_le (HVL.out b hb) TW.out.size) R.out (.inr ⟨_, _, _, _, rfl⟩) (by intro b hb; simp only [Value.ownBlock, Option.some.injEq] at hb; subst hb; exact LW.out) HSL.out (by simp; omega) rfl rfl rfl rfl
  · have hx0 : extract (Pu.HK.sha kt) secret salt = mac (Pu.HK.sha kt) salt secret := by unfold extract; rw [if_neg h0]
    have hx := Lib.hid hx0
    clear hx0
    have hne : u ≠ .slice none 0 0 := fun e => h0 (hnil.1 e)
    obtain ⟨b0, o0, n0, c0, rfl⟩ : ∃ b o n c, u = .slice (some ⟨b, o, none⟩) n c := by
      rcases hun with h | h
      · exact absurd h hne
      · exact h
    have eq1 : ∀ w, (binOp .eql 24 (.slice (some ⟨b0, o0, none⟩) n0 c0) (.slice none 0 0)).run Try.prog w = .ok (.bool false) w := fun w => Lib.run_eql_slice_nil w 24 5 (some ⟨b0, o0, none⟩) n0 c0 0 0 Try.underlying24
    clear hu hun hul hnil hne
    go_enter Try.func54, Try.ntmps54
    refine wp_seq_k (fun K0 k0 => ?_)
    have J0 := Lib.hid k0
    clear k0
    go_wp2
    refine J0.out _ _ (wp_seq_k (fun K1 k1 => ?_))
    have J1 := Lib.hid k1
    clear k1
    go_wp2
    refine J1.out _ _ ?_
    rw [hx.out]
    exact exTailD kt _ w w ⟨rfl, rfl⟩ secret salt v _ (Tch.refl _ _) HK.out HV.out HVN.out HVL.out HU.out HUN.out HUL.out HSL.out HKL.out rfl rfl rfl rfl
set_option maxRecDepth 100000 in
theorem exTailO (kt : List UInt32) (k s bl : Int) (a : Act) (w0 w : World) (h : Frm 25 a) (secret key : By) (v u : Value) (hT : Tch [] w0 w) (hK : KIs w kt) (hv : Rd w v secret) (hvn : Nm v) (hvl : ∀ b, v.ownBlock = some b → b < w.heap.size)
    (hu : Rd w u key) (hun : Nm u) (hul : ∀ b, u.ownBlock = some b → b < w.heap.size) (hsl : secret.length ≤ 549755813888) (hkl : key.length ≤ 549755813888)
    (g0 : G a 0 = (.func (.func 51) #[.agg #[.int .i64 k, .int .i64 s, .int .i64 bl]] #[])) (g1 : G a 1 = v) (g2 : G a 2 = u) (g6 : G a 6 = .slice none 0 0) :
    (part (bodyOf Try.f55) [true, true]).wp Try.prog (bodyPost Try.prog Try.f55 (BYE w0 (mac (Pu.HK.own (szOf s bl) (blOf s bl)) key secret))) a w := by
  conv => arg 2; whnf
  rw [lit25 a h]
  simp only [g0, g1, g2, g6]
  have HT := Lib.hid hT
  have HK := Lib.hid hK
  have HV := Lib.hid hv
  have HVN := Lib.hid hvn
  have HVL := Lib.hid hvl
  have HU := Lib.hid hu
  have HUN := Lib.hid hun
  have HUL := Lib.hid hul
  have HSL := Lib.hid hsl
  have HKL := Lib.hid hkl
  clear h g0 g1 g2 g6 hT hK hv hvn hvl hu hun hul hsl hkl
  refine wp_seq_k (fun K0 k0 => ?_)
  have J0 := Lib.hid k0
  clear k0
  go_wp2_with (fail)
  refine (hmNewO k s bl key u w HK.out.lt HU.out HUN.out HUL.out (by have := HKL.out; omega)).mono ?_
  intro e W1 hn0
  obtain ⟨F, rfl, h1⟩ := kmNew hn0
  clear hn0
  have M1 := Lib.hid h1.out.1
  have T1 : Hid (Tch [] w W1) := h1.out.2.1
  have N1 : Hid (NewF w F) := h1.out.2.2
  clear h1
  go_wp2
  refine J0.out _ _ (wp_seq_k (fun K1 k1 => ?_))
  have J1 := Lib.hid k1
  clear k1
  go_wp2_with (fail)
  refine (kmMark (Pu.HK.own (szOf s bl) (blOf s bl)) F key [] W1 M1.out).mono ?_
  rintro e W2 ⟨rfl, h2⟩
  obtain ⟨F2, hF2⟩ : ∃ F2, F2 = { F with kdf := true } := ⟨_, rfl⟩
  have M2 : Hid (KM W2 (Pu.HK.own (szOf s bl) (blOf s bl)) F2 key []) := by rw [hF2]; exact h2.out.1
  have B1 := N1.out.blk M1.out
  have T2 : Hid (Tch [] w W2) := tchNew T1.out h2.out.2 (by intro b hb; rw [List.mem_singleton.1 hb]; exact B1.1)
  have N2 : Hid (NewF w F2) := by rw [hF2]; exact N1.out
  have em : F.m = F2.m := by rw [hF2]
  rw [em]
  clear h2 B1 hF2 em N1 M1 T1
  go_wp2
  refine J1.out _ _ (wp_seq_k (fun K2 k2 => ?_))
  have J2 := Lib.hid k2
  clear k2
  have B2 : Hid (w.heap.size ≤ F2.m ∧ w.heap.size ≤ F2.bo ∧ w.heap.size ≤ F2.so ∧ w.heap.size ≤ F2.bi ∧ w.heap.size ≤ F2.si) := N2.out.blk M2.out
  go_wp2_with (fail)
  refine (kmWrite (Pu.HK.own (szOf s bl) (blOf s bl)) F2 key [] secret v W2 M2.out (HV.out.tchNil T2.out) HVN.out (by
    intro b hb hm
    have := HVL.out b hb
    have := B2.out
    simp only [List.mem_cons, List.not_mem_nil, or_false] at hm
    omega) (by have := HSL.out; simpa using this)).mono ?_
  rintro e W3 ⟨rfl, h3⟩
  have M3 : Hid (KM W3 (Pu.HK.own (szOf s bl) (blOf s bl)) F2 key secret) := h3.out.1
  have T3 : Hid (Tch [] w W3) := tchNew T2.out h3.out.2 (by intro b hb; have := B2.out; simp only [List.mem_cons, List.not_mem_nil, or_false] at hb; omega)
  clear h3 M2 T2
  go_wp2
  refine J2.out _ _ (wp_seq_k (fun K3 k3 => ?_))
  have J3 := Lib.hid k3
  clear k3
  go_wp2_with (fail)
  refine (kmSum (Pu.HK.own (szOf s bl) (blOf s bl)) F2 key secret [] (.slice none 0 0) W3 M3.out (Own.nil _) (by intro b hb; cases hb) HSL.out (by simp)).mono ?_
  rintro e W4 ⟨v4, rfl, h4⟩
  go_wp2
  refine J3.out _ _ ?_
  go_wp2
  go_ret
  refine ⟨v4, rfl, h4.out.1, (HT.out.trans T3.out).new h4.out.2.2.1 ?_, ?_⟩
  · intro i hi
    right
    have := B2.out
    have hi' : i = F2.bo ∨ i = F2.so := by simpa [Value.ownBlock] using hi
    have := HT.out.size
    rcases hi' with rfl | rfl <;> omega
  · rcases h4.out.2.2.2.2 with h | ⟨g, h, hg⟩
    · exact .inl h
    · exact .inr ⟨g, h, Nat.le_trans (HT.out.trans T3.out).size hg⟩
set_option maxRecDepth 100000 in
/-- hkdf.Extract. -/
theorem kExtractO (kt : List UInt32) (k s bl : Int) (secret salt : By) (v u : Value) (w : World) (hK : KIs w kt) (hv : Rd w v secret) (hvn : Nm v) (hvl : ∀ b, v.ownBlock = some b → b < w.heap.size)
    (hu : Rd w u salt) (hun : Nm u) (hul : ∀ b, u.ownBlock = some b → b < w.heap.size) (hnil : u = .slice none 0 0 ↔ salt = []) (hsl : secret.length ≤ 549755813888) (hkl : salt.length ≤ 549755813888) :
    Calls Try.prog 55 #[(.func (.func 51) #[.agg #[.int .i64 k, .int .i64 s, .int .i64 bl]] #[]), v, u] w (BYE w (extract (Pu.HK.own (szOf s bl) (blOf s bl)) secret salt)) := by
  have HK := Lib.hid hK
  have HV := Lib.hid hv
  have HVN := Lib.hid hvn
  have HVL := Lib.hid hvl
  have HU := Lib.hid hu
  have HUN := Lib.hid hun
  have HUL := Lib.hid hul
  have HSL := Lib.hid hsl
  have HKL := Lib.hid hkl
  clear hK hv hvn hvl hsl hkl
  by_cases h0 : salt = []
  · subst h0
    have hx0 : extract (Pu.HK.own (szOf s bl) (blOf s bl)) secret [] = mac (Pu.HK.own (szOf s bl) (blOf s bl)) (List.replicate (Pu.HK.size (Pu.HK.own (szOf s bl) (blOf s bl))) 0) secret := by unfold extract; rw [if_pos rfl]
    have hx := Lib.hid hx0
    clear hx0
    obtain rfl := hnil.2 rfl
    have eq1 : ∀ w, (binOp .eql 24 (.slice none 0 0) (.slice none 0 0)).run Try.prog w = .ok (.bool true) w := fun w => Lib.run_eql_slice_nil w 24 5 none 0 0 0 0 Try.underlying24
    have e1 := mSize (Pu.HK.own (szOf s bl) (blOf s bl))
    have e2 := cSize (Pu.HK.own (szOf s bl) (blOf s bl))
    clear hu hun hul hnil
    go_enter Try.func55, Try.ntmps55
    refine wp_seq_k (fun K0 k0 => ?_)
    have J0 := Lib.hid k0
    clear k0
    go_wp2
    refine J0.out _ _ (wp_seq_k (fun K1 k1 => ?_))
    have J1 := Lib.hid k1
    clear k1
    go_wp2_with (fail)
    refine (newO k s bl w).mono ?_
    rintro e W1 ⟨b, sb, rfl, h1⟩
    go_wp2_with (fail)
    refine (hSize (Pu.HK.own (szOf s bl) (blOf s bl)) b sb [] W1 h1.out.1).mono ?_
    rintro e W2 ⟨rfl, rfl⟩
    obtain ⟨N, hN⟩ : ∃ N, N = Pu.HK.size (Pu.HK.own (szOf s bl) (blOf s bl)) := ⟨_, rfl⟩
    rw [← hN]
    have hN32 : N ≤ 32 := by rw [hN]; exact Pu.HK.ok.size_le (own_ok s bl)
    rw [← hN] at hx
    have T1 : Hid (Tch [] w W1) := h1.out.2.1
    obtain ⟨W, hW⟩ : ∃ W, W = W1.alloc (.cells (List.replicate N (Value.int .u8 0)).toArray 5) := ⟨_, rfl⟩
    have hmk : (Instr.makeSlice 24 (.int .i64 (N : Int)) (.int .i64 (N : Int))).run Try.prog W1 = .ok (.slice (some ⟨W1.heap.size, 0, none⟩) N N) W := by
      rw [hW]; exact run_make_by N N (Nat.le_refl _) (by omega) W1
    have R : Hid (Rd W (.slice (some ⟨W1.heap.size, 0, none⟩) N N) (List.replicate N 0)) := by rw [hW]; exact rd_cells W1 (List.replicate N 0) _ N (by simp) (by simp; omega) (by simp [vb, ib])
    have TW : Hid (Tch [] w W) := by rw [hW]; exact T1.out.trans (Tch.alloc _ _)
    have LW : Hid (W1.heap.size < W.heap.size) := by rw [hW]; show W1.heap.size < (W1.alloc _).heap.size; rw [World.size_alloc]; omega
    clear hW h1 hN T1 e1 e2
    go_wp2
    refine J1.out _ _ ?_
    rw [hx.out]
    exact exTailO kt k s bl _ w W ⟨rfl, rfl⟩ secret (List.replicate N 0) v _ TW.out (HK.out.tch TW.out (by simp)) (HV.out.tchNil TW.out) HVN.out (fun b hb => Nat.lt_of_lt_of_le (HVL.out b hb) TW.out.size) R.out (.inr ⟨_, _, _, _, rfl⟩) (by intro b hb; simp only [Value.ownBlock, Option.some.injEq] at hb; subst hb; exact LW.out) HSL.out (by simp; omega) rfl rfl rfl rfl
  · have hx0 : extract (Pu.HK.own (szOf s bl) (blOf s bl)) secret salt = mac (Pu.HK.own (szOf s bl) (blOf s bl)) salt secret := by unfold extract; rw [if_neg h0]
    have hx := Lib.hid hx0
    clear hx0
    have hne : u ≠ .slice none 0 0 := fun e => h0 (hnil.1 e)
    obtain ⟨b0, o0, n0, c0, rfl⟩ : ∃ b o n c, u = .slice (some ⟨b, o, none⟩) n c := by
      rcases hun with h | h
      · exact absurd h hne
      · exact h
    have eq1 : ∀ w, (binOp .eql 24 (.slice (some ⟨b0, o0, none⟩) n0 c0) (.slice none 0 0)).run Try.prog w = .ok (.bool false) w := fun w => Lib.run_eql_slice_nil w 24 5 (some ⟨b0, o0, none⟩) n0 c0 0 0 Try.underlying24
    clear hu hun hul hnil hne
    go_enter Try.func55, Try.ntmps55
    refine wp_seq_k (fun K0 k0 => ?_)
    have J0 := Lib.hid k0
    clear k0
    go_wp2
    refine J0.out _ _ (wp_seq_k (fun K1 k1 => ?_))
    have J1 := Lib.hid k1
    clear k1
    go_wp2
    refine J1.out _ _ ?_
    rw [hx.out]
    exact exTailO kt k s bl _ w w ⟨rfl, rfl⟩ secret salt v _ (Tch.refl _ _) HK.out HV.out HVN.out HVL.out HU.out HUN.out HUL.out HSL.out HKL.out rfl rfl rfl rfl
set_option maxHeartbeats 1000000 in
set_option maxRecDepth 100000 in
/-- impl.Extract. -/
theorem iExtract (kt : List UInt32) (k s bl : Int) (secret salt : By) (v u : Value) (w : World) (hK : KIs w kt) (hv : Rd w v secret) (hu : Rd w u salt) (hsl : secret.length ≤ 549755813888) (hkl : salt.length ≤ 549755813888) :
    Calls Try.prog 32 #[.agg #[.int .i64 k, .int .i64 s, .int .i64 bl], v, u] w (BYE w (extract (kindOf kt k s bl) secret salt)) := by
  have HV := Lib.hid hv
  have HU := Lib.hid hu
  have HSL := Lib.hid hsl
  have HKL := Lib.hid hkl
  have HK := Lib.hid hK
  clear hv hu hsl hkl hK
  go_enter Try.func32, Try.ntmps32
  refine wp_seq_k (fun K0 k0 => ?_)
  have J0 := Lib.hid k0
  clear k0
  go_wp2
  generalize hW1 : World.alloc _ _ = W1
  have R1 : Row W1 w.heap.size 23 [.int .i64 k, .int .i64 s, .int .i64 bl] := by rw [← hW1]; exact Row.new w 23 _
  have T1 : Hid (Tch [] w W1) := by rw [← hW1]; exact Tch.alloc _ _
  have c0 : W1.cell? ⟨w.heap.size, 0, none⟩ = some (.int .i64 k) := by rw [R1.cell]; rfl
  have c1 : W1.cell? ⟨w.heap.size, 1, none⟩ = some (.int .i64 s) := by rw [R1.cell]; rfl
  have c2 : W1.cell? ⟨w.heap.size, 2, none⟩ = some (.int .i64 bl) := by rw [R1.cell]; rfl
  have HR1 := Lib.hid R1
  clear hW1 R1
  obtain ⟨c, hc⟩ : ∃ c, c = w.heap.size := ⟨_, rfl⟩
  rw [← hc] at c0 c1 c2 HR1 ⊢
  clear hc
  by_cases hk : k = 1
  · subst hk
    refine J0.out _ _ (wp_seq_k (fun K1 k1 => ?_))
    have J1 := Lib.hid k1
    clear k1
    go_wp2_with (fail)
    refine (iCopied v secret W1 (HV.out.tchNil T1.out) (by have := HSL.out; omega)).mono ?_
    rintro e W2 ⟨v2, rfl, h2⟩
    have T2 : Hid (Tch [] w W2) := T1.out.trans h2.out.1.tchNil
    go_wp2_with (fail)
    refine (iCopied u salt W2 (HU.out.tchNil T2.out) (by have := HKL.out; omega)).mono ?_
    rintro e W3 ⟨u3, rfl, h3⟩
    have T3 : Hid (Tch [] w W3) := T2.out.trans h3.out.1.tchNil
    have V3 := Lib.hid (h2.out.1.1.tch h3.out.1.tchNil (by intro b _; simp))
    go_wp2_with (fail)
    refine (kExtractD kt secret salt v2 u3 W3 (HK.out.tch T3.out (by simp)) V3.out.rd V3.out.nm V3.out.lt h3.out.1.1.rd h3.out.1.1.nm h3.out.1.1.lt h3.out.2 HSL.out HKL.out).mono ?_
    rintro e W4 ⟨v4, rfl, h4⟩
    go_wp2
    go_ret
    rw [kind_sha]
    exact BYE.earlier ⟨v4, rfl, h4⟩ T3.out
  · have hkb : (k == 1) = false := by simpa using hk
    refine J0.out _ _ (wp_seq_k (fun K1 k1 => ?_))
    have J1 := Lib.hid k1
    clear k1
    have hmf : ∀ (fn : Fn) (first cap : Array Value) (w : World), (Instr.makeFunc fn first cap).run Try.prog w = .ok (.func fn first cap) w := fun _ _ _ _ => rfl
    have KA : Hid (∀ w', Tch [] W1 w' → (w'.cell? ⟨c, 0, none⟩ = some (.int .i64 k) ∧ w'.cell? ⟨c, 1, none⟩ = some (.int .i64 s) ∧ w'.cell? ⟨c, 2, none⟩ = some (.int .i64 bl))) := fun w' h => ⟨h.cell c0 (by simp), h.cell c1 (by simp), h.cell c2 (by simp)⟩
    go_wp2
    refine J1.out _ _ (wp_seq_k (fun K2 k2 => ?_))
    have J2 := Lib.hid k2
    clear k2
    go_region_held3 (fun w' => w'.cell? ⟨c, 0, none⟩ = some (.int .i64 k) ∧ w'.cell? ⟨c, 1, none⟩ = some (.int .i64 s) ∧ w'.cell? ⟨c, 2, none⟩ = some (.int .i64 bl)) (exact KA.out _ (by first | exact Tch.drewN W1 1 | exact t2 | exact t3 | exact t4)) (first | (go_at_call 45; refine (iCopied v secret W1.drew (HV.out.tchNil (T1.out.trans (Tch.drewN W1 1))) (by have := HSL.out; omega)).mono ?_; rintro e W2 ⟨v2, rfl, h2⟩; have t2 : Tch [] W1 W2 := (Tch.drewN W1 1).trans h2.out.1.tchNil) | (go_at_call 45; refine (iCopied u salt W2 (HU.out.tchNil (T1.out.trans t2)) (by have := HKL.out; omega)).mono ?_; rintro e W3 ⟨u3, rfl, h3⟩; have t3 : Tch [] W1 W3 := t2.trans h3.out.1.tchNil) | (go_at_call 55; refine (kExtractO kt k s bl secret salt v2 u3 W3 (HK.out.tch (T1.out.trans t3) (by simp)) (h2.out.1.1.tch h3.out.1.tchNil (by intro b _; simp)).rd h2.out.1.1.nm (fun b hb => Nat.lt_of_lt_of_le (h2.out.1.1.lt b hb) h3.out.1.tchNil.size) h3.out.1.1.rd h3.out.1.1.nm h3.out.1.1.lt h3.out.2 HSL.out HKL.out).mono ?_; rintro e W4 ⟨v4, rfl, h4⟩; have t4 : Tch [] W1 W4 := t3.trans h4.out.2.1))
    all_goals (go_wp2; refine J2.out _ _ ?_; go_wp2; go_ret; rw [bad_kind kt k s bl hk]; exact BYE.earlier ⟨v4, rfl, h4⟩ (T1.out.trans t3))
end Go.Proofs.Ytgomodhhomekpaa

/-
  spec.Joined.
-/
namespace Go.Proofs.Ytgomodhhomekpaa
open Go.RowKit Pu Ar
def JOP (a : Act) (w : World) (i : Nat) (v : Value) (xs : By) (a' : Act) (w' : World) : Prop :=
  Frm 18 a' ∧ Same [7, 8] a a' ∧ G a' 9 = .int .i64 ((i : Int) + 1) ∧ ∃ v', G a' 3 = v' ∧ Grew w w' v v' xs
set_option maxRecDepth 100000 in
theorem joRound (a : Act) (w : World) (h : Frm 18 a) (Q : Exit → Act → World → Prop) (b po i n cap : Nat) (u v : Value) (xs x : By)
    (hi : i < n) (hn : (n : Int) ≤ 9223372036854775807) (cu : w.cell? ⟨b, po + i, none⟩ = some u) (hx : Rd w u x) (hv : Own w v xs) (hsz : xs.length + x.length ≤ 140737488355328)
    (g3 : G a 3 = v) (g7 : G a 7 = .slice (some ⟨b, po, none⟩) n cap) (g8 : G a 8 = .int .i64 n) (g9 : G a 9 = .int .i64 i)
    (hQ : ∀ a' w', JOP a w i v (xs ++ x) a' w' → Q .normal a' w') :
    (part (bodyOf Try.f35) [true, true, false, true, false, false]).wp Try.prog Q a w := by
  have hii : (i : Int) < n := by exact_mod_cast hi
  conv => arg 2; whnf
  rw [lit18 a h]
  simp only [g3, g7, g8, g9]
  have G7 := Lib.hid g7
  have G8 := Lib.hid g8
  have HX := Lib.hid hx
  have HV := Lib.hid hv
  have HS := Lib.hid hsz
  clear h g3 g7 g8 g9 hx hv hsz
  go_wp2_with (refine wpList_append_by rfl _ _ rfl v u xs x rfl rfl HV.out HX.out HS.out ?_)
  intro v' w' h5
  go_wp2
  obtain ⟨o1, o2, _, o4⟩ := h5.out
  have E7 := G7.out
  have E8 := G8.out
  exact ⟨⟨rfl, rfl⟩, ⟨E7.symm, E8.symm, trivial⟩, rfl, v', rfl, o1, o2, o4⟩
def JOX (a : Act) (w : World) (a' : Act) (w' : World) : Prop := Frm 18 a' ∧ Same [3] a a' ∧ w' = w
set_option maxRecDepth 100000 in
theorem joLeave (a : Act) (w : World) (h : Frm 18 a) (Q : Exit → Act → World → Prop) (n : Nat) (g8 : G a 8 = .int .i64 n) (g9 : G a 9 = .int .i64 n)
    (hQ : ∀ a' w', JOX a w a' w' → Q (.exit 0) a' w') :
    (part (bodyOf Try.f35) [true, true, false, true, false, false]).wp Try.prog Q a w := by
  conv => arg 2; whnf
  rw [lit18 a h]
  simp only [g8, g9]
  clear h g8 g9
  go_wp2
  exact ⟨⟨rfl, rfl⟩, ⟨rfl, trivial⟩, rfl⟩
theorem joLoop_eq : part (bodyOf Try.f35) [true, true, false, true, false] = .loop (part (bodyOf Try.f35) [true, true, false, true, false, false]) := by kernel_rfl
structure JOI (a0 : Act) (w0 : World) (ps : List By) (v : Value) (i : Nat) (a : Act) (w : World) : Prop where
  frm : Frm 18 a
  same : Same [7, 8] a0 a
  le : i ≤ ps.length
  g9 : G a 9 = .int .i64 (i : Int)
  grew : ∃ v1, G a 3 = v1 ∧ Grew w0 w v v1 (ps.take i).flatten
def JOE (w : World) (v : Value) (l : By) (a' : Act) (w' : World) : Prop := Frm 18 a' ∧ Grew w w' v (G a' 3) l
theorem joLoop (a : Act) (wb w : World) (h : Frm 18 a) (Q : Exit → Act → World → Prop) (ps : List By) (v pv : Value) (hT : Tch [] wb w) (hP : PRd wb pv ps) (hv : Own w v []) (hvn : ∀ b, v.ownBlock = some b → wb.heap.size ≤ b) (hsz : ps.flatten.length ≤ 140737488355328)
    (g3 : G a 3 = v) (g7 : G a 7 = pv) (g8 : G a 8 = .int .i64 ps.length) (g9 : G a 9 = .int .i64 0)
    (hQ : ∀ a' w', JOE w v ps.flatten a' w' → Q (.exit 0) a' w') :
    (part (bodyOf Try.f35) [true, true, false, true, false]).wp Try.prog Q a w := by
  rw [joLoop_eq]
  obtain ⟨q, cap, hpv, hcap, hmax, hrd⟩ := hP
  unfold maxLen at hmax
  refine wp_loop (fun a' w' => ∃ i, JOI a w ps v i a' w') (fun a' _ => ps.length - (intOf (G a' 9)).toNat) ⟨0, h, by simp [Same], by omega, g9, v, g3, by simpa using Grew.refl hv⟩ ?_
  rintro a1 w1 ⟨i, I⟩
  obtain ⟨v1, e1, k1⟩ := I.grew
  have T1 : Tch [] wb w1 := hT.new k1.2.1 (by intro j hj; right; exact hvn j (by simpa using hj))
  by_cases hi : i < ps.length
  · obtain ⟨pb, po, rfl, hcell⟩ : ∃ b o, q = some ⟨b, o, none⟩ ∧ ∀ i x, ps[i]? = some x → ∃ u, wb.cell? ⟨b, o + i, none⟩ = some u ∧ Rd wb u x := by
      rcases hrd with h | h
      · rw [h] at hi; simp at hi
      · exact h
    obtain ⟨u, cu, hu⟩ := hcell i _ (List.getElem?_eq_getElem hi)
    have ef : (ps.take (i + 1)).flatten = (ps.take i).flatten ++ ps[i] := by
      rw [List.take_succ_eq_append_getElem hi, List.flatten_append]; simp
    have hle := flatten_take_le ps (i + 1)
    refine joRound a1 w1 I.frm _ pb po i ps.length cap u v1 _ ps[i] hi (by omega) (T1.cell cu (by simp)) (hu.tchNil T1) k1.1 (by rw [← List.length_append, ← ef]; omega) e1 ((I.same.get 7 rfl).trans (g7.trans hpv)) ((I.same.get 8 rfl).trans g8) I.g9 ?_
    rintro a' w' ⟨p1, p2, p3, v', p4, p5⟩
    simp only [Exit.then]
    refine ⟨⟨i + 1, p1, ?_, by omega, p3, v', p4, by rw [ef]; exact k1.trans p5⟩, ?_⟩
    · have s := I.same
      simp only [Same] at s p2 ⊢
      simp only [p2, s, and_self]
    · rw [p3, I.g9]; simp [intOf]; omega
  · have hi' : i = ps.length := by have := I.le; omega
    subst hi'
    refine joLeave a1 w1 I.frm _ ps.length ((I.same.get 8 rfl).trans g8) I.g9 ?_
    rintro a' w' ⟨p1, p2, rfl⟩
    simp only [Exit.then]
    refine hQ _ _ ⟨p1, ?_⟩
    rw [p2.get 3 rfl, e1]
    rwa [List.take_length] at k1
set_option maxRecDepth 100000 in
/-- spec.Joined. -/
theorem sJoined (ps : List By) (pv : Value) (w : World) (hP : PRd w pv ps) (hsz : ps.flatten.length ≤ 140737488355328) :
    Calls Try.prog 35 #[pv] w (BYE w ps.flatten) := by
  obtain ⟨q, cap, rfl, _⟩ := id hP
  have HP := Lib.hid hP
  have HS := Lib.hid hsz
  clear hP hsz
  go_enter Try.func35, Try.ntmps35
  go_wp2
  refine joLoop _ w _ ⟨rfl, rfl⟩ _ ps (.slice (some ⟨w.heap.size, 0, none⟩) 0 0) _ (Tch.alloc _ _) HP.out (OwnC.new w 0 (Nat.zero_le _)).own (by intro b hb; simp only [Value.ownBlock, Option.some.injEq] at hb; omega) HS.out rfl rfl rfl rfl ?_
  rintro a' w' ⟨f, k⟩
  rw [lit18 a' f]
  have H := Lib.hid k
  clear k f
  go_wp2
  go_ret
  refine ⟨_, rfl, H.out.1, (Tch.alloc _ _).new H.out.2.1 (by intro i hi; right; have hi' : i = w.heap.size := by simpa [Value.ownBlock] using hi
                                                             omega), ?_⟩
  rcases H.out.2.2 with h | ⟨g, h, hg⟩
  · right; exact ⟨w.heap.size, h, Nat.le_refl _⟩
  · right; exact ⟨g, h, Nat.le_trans (by rw [World.size_alloc]; omega) hg⟩
end Go.Proofs.Ytgomodhhomekpaa
