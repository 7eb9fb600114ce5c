/-
  An HMAC in memory: its fields, its two hashes, its two blocks of the key.
-/
import Derived.Test.YtgomodhhomekpaaHw
namespace Go.Proofs.Ytgomodhhomekpaa
open Go.RowKit Pu Ar
structure HF where
  m : Nat
  bo : Nat
  so : Nat
  bi : Nat
  si : Nat
  ov : Value
  iv : Value
  mar : Bool
  kdf : Bool
  n : Int
/-- The blocks that an HMAC stands on, the table with them. -/
def HF.all (F : HF) : List Nat := 0 :: F.m :: F.bo :: F.so :: F.bi :: F.si :: (F.ov.ownBlock.toList ++ F.iv.ownBlock.toList)
structure MacAt (w : World) (hk : Pu.HK) (F : HF) (o i l : By) : Prop where
  ok : hk.ok
  row : Row w F.m 95 (hmCells hk F.ov F.iv F.bo F.bi F.mar F.kdf F.n)
  outer : ∃ lo, HIs w hk F.bo F.so lo
  inner : HIs w hk F.bi F.si l
  ord : Rd w F.ov o
  ird : Rd w F.iv i
  onm : Nm F.ov
  inm : Nm F.iv
  olt : ∀ b, F.ov.ownBlock = some b → b < w.heap.size
  ilt : ∀ b, F.iv.ownBlock = some b → b < w.heap.size
  m1 : F.m ≠ F.bo ∧ F.m ≠ F.so ∧ F.m ≠ F.bi ∧ F.m ≠ F.si
  k1 : 0 ≠ F.m ∧ 0 ≠ F.bo ∧ 0 ≠ F.so ∧ 0 ≠ F.bi ∧ 0 ≠ F.si
  oi : F.bi ≠ F.bo ∧ F.bi ≠ F.so ∧ F.si ≠ F.bo ∧ F.si ≠ F.so
  offo : Off [F.m, F.bo, F.so, F.bi, F.si] F.ov
  offi : Off [F.m, F.bo, F.so, F.bi, F.si] F.iv
theorem MacAt.lt {w : World} {hk : Pu.HK} {F : HF} {o i l : By} (h : MacAt w hk F o i l) : ∀ b ∈ F.all, b < w.heap.size := by
  intro b hb
  have hm := h.row.lt
  obtain ⟨_, ho⟩ := h.outer
  have h1 := ho.lt
  have h2 := h.inner.lt
  simp only [HF.all, List.mem_cons, List.mem_append, Option.mem_toList] at hb
  rcases hb with rfl | rfl | rfl | rfl | rfl | rfl | hb | hb
  · omega
  · exact hm
  · exact h1.1
  · exact h1.2
  · exact h2.1
  · exact h2.2
  · exact h.olt b hb
  · exact h.ilt b hb
theorem off_sub {S T : List Nat} {v : Value} (h : Off S v) (hs : ∀ b ∈ T, b ∈ S) : Off T v := fun b hb hm => h b hb (hs b hm)
theorem MacAt.tch {S : List Nat} {w w' : World} {hk : Pu.HK} {F : HF} {o i l : By} (h : MacAt w hk F o i l) (k : Tch S w w') (hS : ∀ b ∈ F.all, b ∉ S) : MacAt w' hk F o i l := by
  obtain ⟨lo, ho⟩ := h.outer
  have e : ∀ b, b ∈ F.all → b ∉ S := hS
  simp only [HF.all, List.mem_cons, List.mem_append, Option.mem_toList] at e
  exact ⟨h.ok, h.row.tch k (e _ (by simp)), ⟨lo, ho.tch k (e _ (by simp)) (e _ (by simp)) (e _ (by simp))⟩, h.inner.tch k (e _ (by simp)) (e _ (by simp)) (e _ (by simp)),
    h.ord.tch k (fun b hb => e b (by simp [hb])), h.ird.tch k (fun b hb => e b (by simp [hb])), h.onm, h.inm, fun b hb => Nat.lt_of_lt_of_le (h.olt b hb) k.size, fun b hb => Nat.lt_of_lt_of_le (h.ilt b hb) k.size,
    h.m1, h.k1, h.oi, h.offo, h.offi⟩
/-- What is new is none of the HMAC's blocks. -/
theorem MacAt.tchNew {S : List Nat} {w w' : World} {hk : Pu.HK} {F : HF} {o i l : By} (h : MacAt w hk F o i l) (k : Tch S w w') (hS : ∀ b ∈ S, w.heap.size ≤ b) : MacAt w' hk F o i l :=
  h.tch k (fun b hb hm => by have := h.lt b hb; have := hS b hm; omega)
/-- The inner hash has turned, and nothing else of it. -/
theorem MacAt.turnIn {w w' : World} {hk : Pu.HK} {F : HF} {o i l l' : By} (h : MacAt w hk F o i l) (k : Tch [F.bi, F.si] w w') (hi : HIs w' hk F.bi F.si l') : MacAt w' hk F o i l' := by
  obtain ⟨lo, ho⟩ := h.outer
  obtain ⟨a1, a2, a3, a4⟩ := h.m1
  obtain ⟨b1, b2, b3, b4, b5⟩ := h.k1
  obtain ⟨c1, c2, c3, c4⟩ := h.oi
  exact ⟨h.ok, h.row.tch k (by simp [a3, a4]), ⟨lo, ho.tch k (by simp only [List.mem_cons, List.not_mem_nil, or_false, not_or]; exact ⟨b4, b5⟩) (by simp [Ne.symm c1, Ne.symm c3]) (by simp [Ne.symm c2, Ne.symm c4])⟩, hi,
    h.ord.tch k (off_sub h.offo (by simp +contextual)), h.ird.tch k (off_sub h.offi (by simp +contextual)), h.onm, h.inm, fun b hb => Nat.lt_of_lt_of_le (h.olt b hb) k.size, fun b hb => Nat.lt_of_lt_of_le (h.ilt b hb) k.size,
    h.m1, h.k1, h.oi, h.offo, h.offi⟩
theorem MacAt.turnOut {w w' : World} {hk : Pu.HK} {F : HF} {o i l lo : By} (h : MacAt w hk F o i l) (k : Tch [F.bo, F.so] w w') (hi : HIs w' hk F.bo F.so lo) : MacAt w' hk F o i l := by
  obtain ⟨a1, a2, a3, a4⟩ := h.m1
  obtain ⟨b1, b2, b3, b4, b5⟩ := h.k1
  obtain ⟨c1, c2, c3, c4⟩ := h.oi
  exact ⟨h.ok, h.row.tch k (by simp [a1, a2]), ⟨lo, hi⟩, h.inner.tch k (by simp only [List.mem_cons, List.not_mem_nil, or_false, not_or]; exact ⟨b2, b3⟩) (by simp [c1, c2]) (by simp [c3, c4]),
    h.ord.tch k (off_sub h.offo (by simp +contextual)), h.ird.tch k (off_sub h.offi (by simp +contextual)), h.onm, h.inm, fun b hb => Nat.lt_of_lt_of_le (h.olt b hb) k.size, fun b hb => Nat.lt_of_lt_of_le (h.ilt b hb) k.size,
    h.m1, h.k1, h.oi, h.offo, h.offi⟩
/-- Write. -/
theorem macWrite (hk : Pu.HK) (F : HF) (o i l p : By) (v : Value) (w : World) (h : MacAt w hk F o i l) (hv : Rd w v p) (hn : Nm v) (hoff : Off [F.bi, F.si] v) (hlen : (l ++ p).length ≤ 1099511627776) :
    Calls Try.prog 44 #[.pointer (some ⟨F.m, 0, none⟩), v] w fun e w' => e = .returned (.tuple #[.int .i64 p.length, .nilIface]) ∧ Hid (MacAt w' hk F o i (l ++ p) ∧ Tch [F.bi, F.si] w w') := by
  refine (hmWrite hk F.m F.bi F.si F.ov F.iv F.bo F.mar F.kdf F.n l p v w h.row h.inner hv hn hoff hlen).mono ?_
  rintro e w' ⟨rfl, h3⟩
  exact ⟨rfl, h.turnIn h3.out.2 h3.out.1, h3.out.2⟩
end Go.Proofs.Ytgomodhhomekpaa
