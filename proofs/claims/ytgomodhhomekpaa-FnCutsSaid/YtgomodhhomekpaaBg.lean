/-
  blockGeneric and block: all whole blocks of what is handed in are taken into the digest.
-/
import Derived.Test.YtgomodhhomekpaaBs
namespace Go.Proofs.Ytgomodhhomekpaa
open Go.RowKit Pu Ar
theorem digCells_set8 (s t : S8) (x : By) (nx len : Nat) :
    ((((((((digCells s x nx len).set 0 (vw t.a)).set 1 (vw t.b)).set 2 (vw t.c)).set 3 (vw t.d)).set 4 (vw t.e)).set 5 (vw t.f)).set 6 (vw t.g)).set 7 (vw t.h) = digCells t x nx len := rfl
theorem row_set8 {s : S8} {x : By} {nx ln b : Nat} {w : World} (t : S8) (h : Row w b 104 (digCells s x nx ln)) :
    Row ((((((((w.setCell ⟨b, 0, none⟩ (.int .u32 (iw t.a))).setCell ⟨b, 1, none⟩ (.int .u32 (iw t.b))).setCell ⟨b, 2, none⟩ (.int .u32 (iw t.c))).setCell ⟨b, 3, none⟩ (.int .u32 (iw t.d))).setCell ⟨b, 4, none⟩ (.int .u32 (iw t.e))).setCell ⟨b, 5, none⟩ (.int .u32 (iw t.f))).setCell ⟨b, 6, none⟩ (.int .u32 (iw t.g))).setCell ⟨b, 7, none⟩ (.int .u32 (iw t.h))).drew b 104 (digCells t x nx ln) := by
  rw [← digCells_set8 s t x nx ln]
  exact ((((((((h.set 0 _).set 1 _).set 2 _).set 3 _).set 4 _).set 5 _).set 6 _).set 7 _).drewN 1
theorem tch_set8 (w : World) (b : Nat) (v0 v1 v2 v3 v4 v5 v6 v7 : Value) :
    Tch [b] w ((((((((w.setCell ⟨b, 0, none⟩ v0).setCell ⟨b, 1, none⟩ v1).setCell ⟨b, 2, none⟩ v2).setCell ⟨b, 3, none⟩ v3).setCell ⟨b, 4, none⟩ v4).setCell ⟨b, 5, none⟩ v5).setCell ⟨b, 6, none⟩ v6).setCell ⟨b, 7, none⟩ v7).drew :=
  Tch.trans (Tch.trans (Tch.trans (Tch.trans (Tch.trans (Tch.trans (Tch.trans (Tch.trans (Tch.setCell _ _ _ (by simp)) (Tch.setCell _ _ _ (by simp))) (Tch.setCell _ _ _ (by simp))) (Tch.setCell _ _ _ (by simp))) (Tch.setCell _ _ _ (by simp))) (Tch.setCell _ _ _ (by simp))) (Tch.setCell _ _ _ (by simp))) (Tch.setCell _ _ _ (by simp))) (Tch.drewN _ 1)
set_option maxHeartbeats 1000000 in
set_option maxRecDepth 100000 in
theorem blockGeneric (kt : List UInt32) (s : S8) (b : Nat) (x : By) (nx ln : Nat) (v : Value) (l : By) (w : World) (hK : KIs w kt) (hR : Row w b 104 (digCells s x nx ln)) (hl : Rd w v l) :
    Calls Try.prog 112 #[.pointer (some ⟨b, 0, none⟩), v] w fun e w' => e = .returned (.tuple #[]) ∧ Row w' b 104 (digCells (blocks kt s l) x nx ln) ∧ Tch [b] w w' := by
  have c0 : w.cell? ⟨b, 0, none⟩ = some (.int .u32 (iw s.a)) := by rw [hR.cell]; rfl
  have c1 : w.cell? ⟨b, 1, none⟩ = some (.int .u32 (iw s.b)) := by rw [hR.cell]; rfl
  have c2 : w.cell? ⟨b, 2, none⟩ = some (.int .u32 (iw s.c)) := by rw [hR.cell]; rfl
  have c3 : w.cell? ⟨b, 3, none⟩ = some (.int .u32 (iw s.d)) := by rw [hR.cell]; rfl
  have c4 : w.cell? ⟨b, 4, none⟩ = some (.int .u32 (iw s.e)) := by rw [hR.cell]; rfl
  have c5 : w.cell? ⟨b, 5, none⟩ = some (.int .u32 (iw s.f)) := by rw [hR.cell]; rfl
  have c6 : w.cell? ⟨b, 6, none⟩ = some (.int .u32 (iw s.g)) := by rw [hR.cell]; rfl
  have c7 : w.cell? ⟨b, 7, none⟩ = some (.int .u32 (iw s.h)) := by rw [hR.cell]; rfl
  have hb := hR.lt
  have hne : b ≠ w.heap.size := by omega
  have HK := Lib.hid hK
  have HR := Lib.hid hR
  have HL := Lib.hid hl
  clear hK hR hl
  obtain ⟨O, hO⟩ : ∃ O : Obj, O = .cells ((List.replicate 64 (0 : UInt32)).map vw).toArray 117 (0, 0) := ⟨_, rfl⟩
  go_enter Try.func112, Try.ntmps112
  go_wp2
  go_quiet (fail)
  generalize hW1 : World.drewN _ _ = W1
  have T1 : Tch [] w W1 := by rw [← hW1]; exact (Tch.alloc _ _).trans (Tch.drewN _ _)
  have hws : WIs W1 w.heap.size (List.replicate 64 0) := by
    rw [← hW1]; exact ⟨rfl, (Row.new w 117 ((List.replicate 64 (0 : UInt32)).map vw)).drewN nq⟩
  have KW := HK.out.tch T1 (by simp)
  have HW := Lib.hid hws
  have HT := Lib.hid T1
  have HKW := Lib.hid KW
  clear hW1 hws T1 KW O hO c0 c1 c2 c3 c4 c5 c6 c7
  have h0 : 0 < w.heap.size := by omega
  go_wp2
  have hoff : lenOf v ≠ 0 → Off [w.heap.size] v := by
    intro h bb hbb
    obtain ⟨p, cap, hv, _, _, hr⟩ := HL.out
    rcases hr with hr | ⟨b1, o1, rfl, hr⟩
    · subst hr; rw [hv] at h; exact absurd rfl h
    · rw [hv] at hbb
      simp only [Value.ownBlock, Option.some.injEq] at hbb
      subst hbb
      by_cases h0 : 0 < l.length
      · have := cell_lt (hr 0 _ (List.getElem?_eq_getElem h0))
        simp only [List.mem_singleton]; simp only at this; omega
      · rw [hv] at h; simp only [lenOf] at h; omega
  refine bo _ W1 _ kt w.heap.size s l HKW.out h0 rfl ⟨⟨rfl, rfl⟩, ⟨rfl, rfl, trivial⟩, by omega, HL.out.tchNew HT.out (by simp), hoff, rfl, rfl, rfl, rfl, rfl, rfl, rfl, rfl, ⟨_, HW.out⟩, Tch.refl _ _⟩ ?_
  intro a' w' I
  simp only [Exit.then, Exit.inBlock, if_true]
  rename_i K1 hK1
  refine hK1 _ _ ?_
  have TW : Tch [] w w' := HT.out.new I.tch (by simp)
  have RW := HR.out.tch TW (by simp)
  have cc : ∀ j, j < 8 → ∃ y, w'.cell? ⟨b, j, none⟩ = some y := by
    intro j hj
    rw [RW.cell]
    exact ⟨_, List.getElem?_eq_getElem (by simp [digCells]; omega)⟩
  refine bgStore a' w' I.frm _ b (blocks kt s l) (I.same.1.trans rfl) I.g5 I.g6 I.g7 I.g8 I.g9 I.g10 I.g11 I.g12 cc (fun j => RW.free j) ?_
  rintro a2 w2 ⟨rfl, hd⟩
  exact bodyPost_end (results_none rfl _ _ _) hd ⟨rfl, row_set8 (blocks kt s l) RW, (TW.mono (by simp)).trans (tch_set8 w' b _ _ _ _ _ _ _ _)⟩
end Go.Proofs.Ytgomodhhomekpaa
