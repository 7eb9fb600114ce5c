/-
  What the rows' frames want: the arguments opened, the table out of the world's shape, the frame about a walk.
-/
import Derived.Test.YtgomodhhomekpaaRows
import Derived.Test.YtgomodhhomekpaaSm
import Derived.WalkKit
import Derived.ProofKit
import Derived.OpenShut
import Derived.ShutString
import Derived.ChangeOld
import Derived.Below
import Derived.Lib.SmallJoins
import Derived.LaidMore
import Derived.OpenVars
import Derived.HandedShaped
namespace Go.Proofs.Ytgomodhhomekpaa
open Go.ChangeShapes Go.WideShapes Go.ChangeAt Go.RowKit Go.Joins Pu Ar
open Go.ChangeMaps (open_string shut_string)
set_option maxRecDepth 100000
theorem rOwn : ownKnob Try.prog.godebug = none := by kernel_rfl
theorem rLaid : laidOutB Try.prog = true := by kernel_rfl
theorem cHash : Try.prog.cellsOf 23 = 3 := by kernel_rfl
theorem cByte : Try.prog.cellsOf 5 = 1 := by kernel_rfl
/-- The table holds 64 words, whatever they are. -/
theorem kis_of_shape {W : World} (h : W.ShapedOpen Try.prog) : ∃ kt, KIs W kt := by
  have hz : (((begin Try.prog (fun _ _ => 0) default).world.heap[0]?).bind Obj.row?).map (fun x => (x.1.size, x.2)) = some (64, 117) := by kernel_rfl
  obtain ⟨⟨zero, t⟩, h0, h1⟩ := Option.map_eq_some_iff.1 hz
  simp only [Prod.mk.injEq] at h1
  obtain ⟨h1, rfl⟩ := h1
  obtain ⟨cs, hh, hs, hr⟩ := h.1 0 zero 117 (of_decide_eq_true (by kernel_rfl)) h0
  obtain ⟨ts, hts, _, hall⟩ := hr (by kernel_rfl)
  have e : Try.prog.cellTypes Try.prog.depth 117 = some (List.replicate 64 99) := by kernel_rfl
  rw [e] at hts
  obtain rfl := Option.some.inj hts
  have each : ∀ i (hi : i < cs.size), ∃ n : Nat, cs[i] = .int .u32 (n : Int) ∧ n < 4294967296 := by
    intro i hi
    obtain ⟨u, hu, hok⟩ := hall i cs[i] (by simp [hi])
    rw [List.getElem?_replicate] at hu
    split at hu
    · obtain rfl := Option.some.inj hu
      unfold Cell.ok at hok
      rw [Try.underlying99] at hok
      cases hv : cs[i] with
      | int k n =>
        rw [hv] at hok
        obtain ⟨rfl, hk⟩ := hok
        simp [IntKind.has, IntKind.signed, IntKind.bits, IntKind.min, IntKind.max] at hk
        exact ⟨n.toNat, by rw [Int.toNat_of_nonneg (by omega)], by omega⟩
      | _ => rw [hv] at hok; simp at hok
    · cases hu
  refine ⟨cs.toList.map (fun v => match v with | .int _ n => UInt32.ofNat n.toNat | _ => 0), by simp [hs, h1], ?_⟩
  unfold Row
  rw [hh]
  congr 2
  apply Array.ext
  · simp
  · intro i h2 h3
    obtain ⟨n, hn, hlt⟩ := each i h2
    simp only [List.map_map, List.getElem_toArray, List.getElem_map, Array.getElem_toList, Function.comp]
    rw [hn]
    simp [vw, iw, Nat.mod_eq_of_lt hlt]
variable {H : Type} {enc : TypeId × Value → H}
/-- A slice of bytes. -/
theorem open_by {W : World} {b0 : Nat} {v : Value} {d : DataW H} {p : List MemPlace} (hval : Value.okWide Try.prog W .any b0 24 v) (h : DataW.Trod enc Try.prog W 0 (fun _ => true) true 24 v d p) : ∃ l, Rd W v l := by
  obtain ⟨a0, len0, cap0, rfl⟩ := okWide_slice Try.underlying24 hval
  obtain ⟨fuel, hf⟩ := h
  rcases open_ints Try.underlying24 Try.underlying5 cByte hf with ⟨hcs, _⟩ | ⟨x, l, c, zs, hcs, _, hl, hm, hz, _, hcell, hwz⟩
  · simp [Value.cells] at hcs
    obtain ⟨rfl, rfl, rfl⟩ := hcs
    exact ⟨[], Rd.nil W⟩
  · simp [Value.cells] at hcs
    obtain ⟨rfl, rfl, rfl⟩ := hcs
    have hzl : zs.length = cap0 := by simpa using hz
    have hby : ∀ i, i < zs.length → (.int .u8 (zs.getD i 0) : Value) = vb (UInt8.ofNat (zs.getD i 0).toNat) := by
      intro i hi
      have hw := hwz (zs.getD i 0) (by rw [List.getD_eq_getElem?_getD, List.getElem?_eq_getElem hi]; exact List.getElem_mem hi)
      simp [Lit.wf, IntKind.min, IntKind.max, IntKind.signed, IntKind.bits] at hw
      have h1 : (zs.getD i 0).toNat % 256 = (zs.getD i 0).toNat := Nat.mod_eq_of_lt (by simp only [List.getD_eq_getElem?_getD] at hw ⊢; omega)
      have h2 : ((zs.getD i 0).toNat : Int) = zs.getD i 0 := Int.toNat_of_nonneg (by simp only [List.getD_eq_getElem?_getD] at hw ⊢; omega)
      unfold vb ib
      rw [UInt8.toNat_ofNat', h1, h2]
    refine ⟨(zs.take len0).map (fun z => UInt8.ofNat z.toNat), some x, cap0, by simp [hzl, Nat.min_eq_left hl], by simp [hzl]; omega, hm, ?_⟩
    by_cases h0 : len0 = 0
    · left; simp [h0]
    · right
      obtain ⟨b, off, spot⟩ := x
      have hc := hcell 0 (by omega)
      have hspot : spot = none := by simpa [Addr.add] using World.cell?_spot hc
      subst hspot
      refine ⟨b, off, rfl, fun i y hy => ?_⟩
      rw [List.getElem?_map, List.getElem?_take] at hy
      split at hy
      · have hi : i < zs.length := by omega
        have := hcell i hi
        rw [hby i hi, add_lit'] at this
        rw [List.getElem?_eq_getElem hi] at hy
        simp only [Option.map_some, Option.some.injEq] at hy
        rw [this, ← hy]
        simp [List.getD_eq_getElem?_getD, List.getElem?_eq_getElem hi]
      · cases hy
/-- A slice of bytes, nil or beginning at a cell. -/
theorem open_arg {W : World} {b0 : Nat} {v : Value} {d : DataW H} {p : List MemPlace} (hval : Value.okWide Try.prog W .any b0 24 v) (h : DataW.Trod enc Try.prog W 0 (fun _ => true) true 24 v d p) : ∃ l, Rd W v l ∧ Nm v := by
  obtain ⟨l, hl⟩ := open_by hval h
  refine ⟨l, hl, ?_⟩
  obtain ⟨p, cap, rfl, -⟩ := hl
  unfold Value.okWide at hval
  rw [Try.underlying24] at hval
  unfold Cell.okWide at hval
  rw [Try.underlying24] at hval
  unfold Cell.ok at hval
  rw [Try.underlying24] at hval
  cases p with
  | none =>
    left
    cases hl : l.length with
    | zero =>
      cases cap with
      | zero => rfl
      | succ c => rw [hl] at hval; simp at hval
    | succ n => rw [hl] at hval; simp at hval
  | some a =>
    right
    obtain ⟨b, o, spot⟩ := a
    obtain ⟨_, _, _, hsp, _⟩ := hval
    simp only at hsp
    subst hsp
    exact ⟨b, o, _, _, rfl⟩
/-- A hash's name. -/
theorem open_hash {W : World} {b0 : Nat} {v : Value} {d : DataW H} {p : List MemPlace} (hval : Value.okWide Try.prog W .any b0 23 v) (h : DataW.Trod enc Try.prog W 0 (fun _ => true) true 23 v d p) : ∃ k s bl : Int, v = .agg #[.int .i64 k, .int .i64 s, .int .i64 bl] := by
  obtain ⟨c0, c1, c2, y0, y1, y2, m, rfl, rfl, rfl, h0, h1, h2⟩ := open_agg3 Try.underlying23 (by kernel_rfl) cHash hval h
  obtain ⟨k, e0, -, -⟩ := DataW.trod_int Try.underlying3 h0
  obtain ⟨s, e1, -, -⟩ := DataW.trod_int Try.underlying3 h1
  obtain ⟨bl, e2, -, -⟩ := DataW.trod_int Try.underlying3 h2
  simp at e0 e1 e2
  exact ⟨k, s, bl, by rw [e0, e1, e2]⟩
/-- A small number. -/
theorem open_u16 {W : World} {b0 : Nat} {v : Value} {d : DataW H} {p : List MemPlace} (hval : Value.okWide Try.prog W .any b0 25 v) (h : DataW.Trod enc Try.prog W 0 (fun _ => true) true 25 v d p) : ∃ n : Nat, v = .int .u16 n ∧ n < 65536 := by
  obtain ⟨n, rfl, -, -, hw⟩ := open_int Try.underlying25 hval h
  simp [Lit.wf, IntKind.min, IntKind.max, IntKind.signed, IntKind.bits] at hw
  exact ⟨n.toNat, by rw [Int.toNat_of_nonneg (by omega)], by omega⟩
theorem open_u8 {W : World} {b0 : Nat} {v : Value} {d : DataW H} {p : List MemPlace} (hval : Value.okWide Try.prog W .any b0 5 v) (h : DataW.Trod enc Try.prog W 0 (fun _ => true) true 5 v d p) : ∃ n : UInt8, v = vb n := by
  obtain ⟨n, rfl, -, -, hw⟩ := open_int Try.underlying5 hval h
  simp [Lit.wf, IntKind.min, IntKind.max, IntKind.signed, IntKind.bits] at hw
  refine ⟨UInt8.ofNat n.toNat, ?_⟩
  unfold vb ib
  rw [UInt8.toNat_ofNat', Nat.mod_eq_of_lt (by omega), Int.toNat_of_nonneg (by omega)]
theorem open_str {W : World} {b0 : Nat} {v : Value} {d : DataW H} {p : List MemPlace} (hval : Value.okWide Try.prog W .any b0 9 v) (h : DataW.Trod enc Try.prog W 0 (fun _ => true) true 9 v d p) : ∃ s : ByteArray, v = .string s ∧ s.size ≤ maxLen := by
  obtain ⟨s, rfl, -, -, hs⟩ := open_string Try.underlying9 hval h
  exact ⟨s, rfl, hs⟩
/-- What was read before the call reads the same behind it. -/
theorem again {t : TypeId} {W W' : World} {v : Value} {d : DataW H} {p : List MemPlace} (hr : Try.prog.readableRec t = true) (ht : t < Try.prog.types.size) (h : DataW.Trod enc Try.prog W 0 (fun _ => true) true t v d p) (hb : Below W.heap.size W W') :
    DataW.Trod enc Try.prog W' 0 (fun b => decide (b < W.heap.size)) true t v d p := Below.trod rLaid hr ht h hb (by obtain ⟨m, hm⟩ := h; exact DataW.trod_lt m _ _ _ hm)
end Go.Proofs.Ytgomodhhomekpaa
