/-
  A part of what this claim leans on: Me, Mf, Mr, Ms, Km, Ex, Li. No conditions of its own.
-/
import Derived.Deep.RegionHeld3
import Derived.Lib.SliceRun
import Derived.Test.YtgomodhhomekpaaM2
/-
  UnmarshalBinary: the words.
-/
namespace Go.Proofs.Ytgomodhhomekpaa
open Go.RowKit Pu Ar
def UMP (w : World) (b : Nat) (s : S8) (x : By) (nx ln : Nat) (v : Value) (a' : Act) (w' : World) : Prop :=
  Frm 137 a' ∧ G a' 0 = .pointer (some ⟨b, 0, none⟩) ∧ G a' 1 = v ∧ Hid (Dig w' b s x nx ln ∧ Tch [b] w w')
set_option maxRecDepth 100000 in
theorem um0 (a : Act) (w : World) (h : Frm 137 a) (Q : Exit → Act → World → Prop) (b : Nat) (s : S8) (x : By) (nx ln : Nat) (v : Value) (l : By) (y : UInt32) (hD : Dig w b s x nx ln) (hv : Rd w v l) (hn : Nm v) (hl : 4 ≤ l.length) (hy : un32 l = y)
    (g0 : G a 0 = .pointer (some ⟨b, 0, none⟩)) (g1 : G a 1 = v) (hQ : ∀ a' w', UMP w b ⟨y, s.b, s.c, s.d, s.e, s.f, s.g, s.h⟩ x nx ln (cut v 4) a' w' → Q .normal a' w') :
    (part (bodyOf Try.f99) [true, true, true, true, false]).wp Try.prog Q a w := by
  have cW : w.cell? ⟨b, 0, none⟩ = some (.int .u32 (iw s.a)) := by rw [hD.row.cell]; rfl
  have fW := hD.row.free 0
  have c74 := hD.is224
  have HC : Hid (Calls Try.prog 103 #[v] w.drew fun e w' => e = .returned (.tuple #[cut v 4, .int .u32 (iw y)]) ∧ ∃ n, w' = w.drew.drewN n) := by rw [← hy]; exact con32 v l w.drew (hv.tchNil (Tch.drewN w 1)) hn hl
  have HD := Lib.hid hD
  conv => arg 2; whnf
  rw [lit137 a h]
  simp only [g0, g1]
  clear h g0 g1 hD hv hn hl hy
  generalize cut v 4 = V at HC hQ
  go_region_held3 (fun w' => w'.cell? ⟨b, 74, none⟩ = some (.bool false)) (first | exact c74 | (rw [World.cell?_setCell_other _ _ _ _ (by intro h; simp only [Addr.mk.injEq] at h; omega)]; exact c74)) (first | (go_at_call 103; refine HC.out.mono ?_; rintro e w' ⟨rfl, n, rfl⟩) | fail)
  all_goals
    go_wp2
    refine ⟨⟨rfl, rfl⟩, rfl, rfl, ⟨?_, HD.out.len⟩, ?_⟩
    · exact (show Row (w.drewN (1 + n)) b 104 (digCells s x nx ln) from HD.out.row).set 0 (vw y)
    · exact (Tch.drewN (S := [b]) w (1 + n)).trans (Tch.setCell _ ⟨b, 0, none⟩ _ (by simp))
set_option maxRecDepth 100000 in
theorem um1 (a : Act) (w : World) (h : Frm 137 a) (Q : Exit → Act → World → Prop) (b : Nat) (s : S8) (x : By) (nx ln : Nat) (v : Value) (l : By) (y : UInt32) (hD : Dig w b s x nx ln) (hv : Rd w v l) (hn : Nm v) (hl : 4 ≤ l.length) (hy : un32 l = y)
    (g0 : G a 0 = .pointer (some ⟨b, 0, none⟩)) (g1 : G a 1 = v) (hQ : ∀ a' w', UMP w b ⟨s.a, y, s.c, s.d, s.e, s.f, s.g, s.h⟩ x nx ln (cut v 4) a' w' → Q .normal a' w') :
    (part (bodyOf Try.f99) [true, true, true, true, true, false]).wp Try.prog Q a w := by
  have cW : w.cell? ⟨b, 1, none⟩ = some (.int .u32 (iw s.b)) := by rw [hD.row.cell]; rfl
  have fW := hD.row.free 1
  have c74 := hD.is224
  have HC : Hid (Calls Try.prog 103 #[v] w.drew fun e w' => e = .returned (.tuple #[cut v 4, .int .u32 (iw y)]) ∧ ∃ n, w' = w.drew.drewN n) := by rw [← hy]; exact con32 v l w.drew (hv.tchNil (Tch.drewN w 1)) hn hl
  have HD := Lib.hid hD
  conv => arg 2; whnf
  rw [lit137 a h]
  simp only [g0, g1]
  clear h g0 g1 hD hv hn hl hy
  generalize cut v 4 = V at HC hQ
  go_region_held3 (fun w' => w'.cell? ⟨b, 74, none⟩ = some (.bool false)) (first | exact c74 | (rw [World.cell?_setCell_other _ _ _ _ (by intro h; simp only [Addr.mk.injEq] at h; omega)]; exact c74)) (first | (go_at_call 103; refine HC.out.mono ?_; rintro e w' ⟨rfl, n, rfl⟩) | fail)
  all_goals
    go_wp2
    refine ⟨⟨rfl, rfl⟩, rfl, rfl, ⟨?_, HD.out.len⟩, ?_⟩
    · exact (show Row (w.drewN (1 + n)) b 104 (digCells s x nx ln) from HD.out.row).set 1 (vw y)
    · exact (Tch.drewN (S := [b]) w (1 + n)).trans (Tch.setCell _ ⟨b, 1, none⟩ _ (by simp))
set_option maxRecDepth 100000 in
theorem um2 (a : Act) (w : World) (h : Frm 137 a) (Q : Exit → Act → World → Prop) (b : Nat) (s : S8) (x : By) (nx ln : Nat) (v : Value) (l : By) (y : UInt32) (hD : Dig w b s x nx ln) (hv : Rd w v l) (hn : Nm v) (hl : 4 ≤ l.length) (hy : un32 l = y)
    (g0 : G a 0 = .pointer (some ⟨b, 0, none⟩)) (g1 : G a 1 = v) (hQ : ∀ a' w', UMP w b ⟨s.a, s.b, y, s.d, s.e, s.f, s.g, s.h⟩ x nx ln (cut v 4) a' w' → Q .normal a' w') :
    (part (bodyOf Try.f99) [true, true, true, true, true, true, false]).wp Try.prog Q a w := by
  have cW : w.cell? ⟨b, 2, none⟩ = some (.int .u32 (iw s.c)) := by rw [hD.row.cell]; rfl
  have fW := hD.row.free 2
  have c74 := hD.is224
  have HC : Hid (Calls Try.prog 103 #[v] w.drew fun e w' => e = .returned (.tuple #[cut v 4, .int .u32 (iw y)]) ∧ ∃ n, w' = w.drew.drewN n) := by rw [← hy]; exact con32 v l w.drew (hv.tchNil (Tch.drewN w 1)) hn hl
  have HD := Lib.hid hD
  conv => arg 2; whnf
  rw [lit137 a h]
  simp only [g0, g1]
  clear h g0 g1 hD hv hn hl hy
  generalize cut v 4 = V at HC hQ
  go_region_held3 (fun w' => w'.cell? ⟨b, 74, none⟩ = some (.bool false)) (first | exact c74 | (rw [World.cell?_setCell_other _ _ _ _ (by intro h; simp only [Addr.mk.injEq] at h; omega)]; exact c74)) (first | (go_at_call 103; refine HC.out.mono ?_; rintro e w' ⟨rfl, n, rfl⟩) | fail)
  all_goals
    go_wp2
    refine ⟨⟨rfl, rfl⟩, rfl, rfl, ⟨?_, HD.out.len⟩, ?_⟩
    · exact (show Row (w.drewN (1 + n)) b 104 (digCells s x nx ln) from HD.out.row).set 2 (vw y)
    · exact (Tch.drewN (S := [b]) w (1 + n)).trans (Tch.setCell _ ⟨b, 2, none⟩ _ (by simp))
set_option maxRecDepth 100000 in
theorem um3 (a : Act) (w : World) (h : Frm 137 a) (Q : Exit → Act → World → Prop) (b : Nat) (s : S8) (x : By) (nx ln : Nat) (v : Value) (l : By) (y : UInt32) (hD : Dig w b s x nx ln) (hv : Rd w v l) (hn : Nm v) (hl : 4 ≤ l.length) (hy : un32 l = y)
    (g0 : G a 0 = .pointer (some ⟨b, 0, none⟩)) (g1 : G a 1 = v) (hQ : ∀ a' w', UMP w b ⟨s.a, s.b, s.c, y, s.e, s.f, s.g, s.h⟩ x nx ln (cut v 4) a' w' → Q .normal a' w') :
    (part (bodyOf Try.f99) [true, true, true, true, true, true, true, false]).wp Try.prog Q a w := by
  have cW : w.cell? ⟨b, 3, none⟩ = some (.int .u32 (iw s.d)) := by rw [hD.row.cell]; rfl
  have fW := hD.row.free 3
  have c74 := hD.is224
  have HC : Hid (Calls Try.prog 103 #[v] w.drew fun e w' => e = .returned (.tuple #[cut v 4, .int .u32 (iw y)]) ∧ ∃ n, w' = w.drew.drewN n) := by rw [← hy]; exact con32 v l w.drew (hv.tchNil (Tch.drewN w 1)) hn hl
  have HD := Lib.hid hD
  conv => arg 2; whnf
  rw [lit137 a h]
  simp only [g0, g1]
  clear h g0 g1 hD hv hn hl hy
  generalize cut v 4 = V at HC hQ
  go_region_held3 (fun w' => w'.cell? ⟨b, 74, none⟩ = some (.bool false)) (first | exact c74 | (rw [World.cell?_setCell_other _ _ _ _ (by intro h; simp only [Addr.mk.injEq] at h; omega)]; exact c74)) (first | (go_at_call 103; refine HC.out.mono ?_; rintro e w' ⟨rfl, n, rfl⟩) | fail)
  all_goals
    go_wp2
    refine ⟨⟨rfl, rfl⟩, rfl, rfl, ⟨?_, HD.out.len⟩, ?_⟩
    · exact (show Row (w.drewN (1 + n)) b 104 (digCells s x nx ln) from HD.out.row).set 3 (vw y)
    · exact (Tch.drewN (S := [b]) w (1 + n)).trans (Tch.setCell _ ⟨b, 3, none⟩ _ (by simp))
set_option maxRecDepth 100000 in
theorem um4 (a : Act) (w : World) (h : Frm 137 a) (Q : Exit → Act → World → Prop) (b : Nat) (s : S8) (x : By) (nx ln : Nat) (v : Value) (l : By) (y : UInt32) (hD : Dig w b s x nx ln) (hv : Rd w v l) (hn : Nm v) (hl : 4 ≤ l.length) (hy : un32 l = y)
    (g0 : G a 0 = .pointer (some ⟨b, 0, none⟩)) (g1 : G a 1 = v) (hQ : ∀ a' w', UMP w b ⟨s.a, s.b, s.c, s.d, y, s.f, s.g, s.h⟩ x nx ln (cut v 4) a' w' → Q .normal a' w') :
    (part (bodyOf Try.f99) [true, true, true, true, true, true, true, true, false]).wp Try.prog Q a w := by
  have cW : w.cell? ⟨b, 4, none⟩ = some (.int .u32 (iw s.e)) := by rw [hD.row.cell]; rfl
  have fW := hD.row.free 4
  have c74 := hD.is224
  have HC : Hid (Calls Try.prog 103 #[v] w.drew fun e w' => e = .returned (.tuple #[cut v 4, .int .u32 (iw y)]) ∧ ∃ n, w' = w.drew.drewN n) := by rw [← hy]; exact con32 v l w.drew (hv.tchNil (Tch.drewN w 1)) hn hl
  have HD := Lib.hid hD
  conv => arg 2; whnf
  rw [lit137 a h]
  simp only [g0, g1]
  clear h g0 g1 hD hv hn hl hy
  generalize cut v 4 = V at HC hQ
  go_region_held3 (fun w' => w'.cell? ⟨b, 74, none⟩ = some (.bool false)) (first | exact c74 | (rw [World.cell?_setCell_other _ _ _ _ (by intro h; simp only [Addr.mk.injEq] at h; omega)]; exact c74)) (first | (go_at_call 103; refine HC.out.mono ?_; rintro e w' ⟨rfl, n, rfl⟩) | fail)
  all_goals
    go_wp2
    refine ⟨⟨rfl, rfl⟩, rfl, rfl, ⟨?_, HD.out.len⟩, ?_⟩
    · exact (show Row (w.drewN (1 + n)) b 104 (digCells s x nx ln) from HD.out.row).set 4 (vw y)
    · exact (Tch.drewN (S := [b]) w (1 + n)).trans (Tch.setCell _ ⟨b, 4, none⟩ _ (by simp))
set_option maxRecDepth 100000 in
theorem um5 (a : Act) (w : World) (h : Frm 137 a) (Q : Exit → Act → World → Prop) (b : Nat) (s : S8) (x : By) (nx ln : Nat) (v : Value) (l : By) (y : UInt32) (hD : Dig w b s x nx ln) (hv : Rd w v l) (hn : Nm v) (hl : 4 ≤ l.length) (hy : un32 l = y)
    (g0 : G a 0 = .pointer (some ⟨b, 0, none⟩)) (g1 : G a 1 = v) (hQ : ∀ a' w', UMP w b ⟨s.a, s.b, s.c, s.d, s.e, y, s.g, s.h⟩ x nx ln (cut v 4) a' w' → Q .normal a' w') :
    (part (bodyOf Try.f99) [true, true, true, true, true, true, true, true, true, false]).wp Try.prog Q a w := by
  have cW : w.cell? ⟨b, 5, none⟩ = some (.int .u32 (iw s.f)) := by rw [hD.row.cell]; rfl
  have fW := hD.row.free 5
  have c74 := hD.is224
  have HC : Hid (Calls Try.prog 103 #[v] w.drew fun e w' => e = .returned (.tuple #[cut v 4, .int .u32 (iw y)]) ∧ ∃ n, w' = w.drew.drewN n) := by rw [← hy]; exact con32 v l w.drew (hv.tchNil (Tch.drewN w 1)) hn hl
  have HD := Lib.hid hD
  conv => arg 2; whnf
  rw [lit137 a h]
  simp only [g0, g1]
  clear h g0 g1 hD hv hn hl hy
  generalize cut v 4 = V at HC hQ
  go_region_held3 (fun w' => w'.cell? ⟨b, 74, none⟩ = some (.bool false)) (first | exact c74 | (rw [World.cell?_setCell_other _ _ _ _ (by intro h; simp only [Addr.mk.injEq] at h; omega)]; exact c74)) (first | (go_at_call 103; refine HC.out.mono ?_; rintro e w' ⟨rfl, n, rfl⟩) | fail)
  all_goals
    go_wp2
    refine ⟨⟨rfl, rfl⟩, rfl, rfl, ⟨?_, HD.out.len⟩, ?_⟩
    · exact (show Row (w.drewN (1 + n)) b 104 (digCells s x nx ln) from HD.out.row).set 5 (vw y)
    · exact (Tch.drewN (S := [b]) w (1 + n)).trans (Tch.setCell _ ⟨b, 5, none⟩ _ (by simp))
set_option maxRecDepth 100000 in
theorem um6 (a : Act) (w : World) (h : Frm 137 a) (Q : Exit → Act → World → Prop) (b : Nat) (s : S8) (x : By) (nx ln : Nat) (v : Value) (l : By) (y : UInt32) (hD : Dig w b s x nx ln) (hv : Rd w v l) (hn : Nm v) (hl : 4 ≤ l.length) (hy : un32 l = y)
    (g0 : G a 0 = .pointer (some ⟨b, 0, none⟩)) (g1 : G a 1 = v) (hQ : ∀ a' w', UMP w b ⟨s.a, s.b, s.c, s.d, s.e, s.f, y, s.h⟩ x nx ln (cut v 4) a' w' → Q .normal a' w') :
    (part (bodyOf Try.f99) [true, true, true, true, true, true, true, true, true, true, false]).wp Try.prog Q a w := by
  have cW : w.cell? ⟨b, 6, none⟩ = some (.int .u32 (iw s.g)) := by rw [hD.row.cell]; rfl
  have fW := hD.row.free 6
  have c74 := hD.is224
  have HC : Hid (Calls Try.prog 103 #[v] w.drew fun e w' => e = .returned (.tuple #[cut v 4, .int .u32 (iw y)]) ∧ ∃ n, w' = w.drew.drewN n) := by rw [← hy]; exact con32 v l w.drew (hv.tchNil (Tch.drewN w 1)) hn hl
  have HD := Lib.hid hD
  conv => arg 2; whnf
  rw [lit137 a h]
  simp only [g0, g1]
  clear h g0 g1 hD hv hn hl hy
  generalize cut v 4 = V at HC hQ
  go_region_held3 (fun w' => w'.cell? ⟨b, 74, none⟩ = some (.bool false)) (first | exact c74 | (rw [World.cell?_setCell_other _ _ _ _ (by intro h; simp only [Addr.mk.injEq] at h; omega)]; exact c74)) (first | (go_at_call 103; refine HC.out.mono ?_; rintro e w' ⟨rfl, n, rfl⟩) | fail)
  all_goals
    go_wp2
    refine ⟨⟨rfl, rfl⟩, rfl, rfl, ⟨?_, HD.out.len⟩, ?_⟩
    · exact (show Row (w.drewN (1 + n)) b 104 (digCells s x nx ln) from HD.out.row).set 6 (vw y)
    · exact (Tch.drewN (S := [b]) w (1 + n)).trans (Tch.setCell _ ⟨b, 6, none⟩ _ (by simp))
set_option maxRecDepth 100000 in
theorem um7 (a : Act) (w : World) (h : Frm 137 a) (Q : Exit → Act → World → Prop) (b : Nat) (s : S8) (x : By) (nx ln : Nat) (v : Value) (l : By) (y : UInt32) (hD : Dig w b s x nx ln) (hv : Rd w v l) (hn : Nm v) (hl : 4 ≤ l.length) (hy : un32 l = y)
    (g0 : G a 0 = .pointer (some ⟨b, 0, none⟩)) (g1 : G a 1 = v) (hQ : ∀ a' w', UMP w b ⟨s.a, s.b, s.c, s.d, s.e, s.f, s.g, y⟩ x nx ln (cut v 4) a' w' → Q .normal a' w') :
    (part (bodyOf Try.f99) [true, true, true, true, true, true, true, true, true, true, true, false]).wp Try.prog Q a w := by
  have cW : w.cell? ⟨b, 7, none⟩ = some (.int .u32 (iw s.h)) := by rw [hD.row.cell]; rfl
  have fW := hD.row.free 7
  have c74 := hD.is224
  have HC : Hid (Calls Try.prog 103 #[v] w.drew fun e w' => e = .returned (.tuple #[cut v 4, .int .u32 (iw y)]) ∧ ∃ n, w' = w.drew.drewN n) := by rw [← hy]; exact con32 v l w.drew (hv.tchNil (Tch.drewN w 1)) hn hl
  have HD := Lib.hid hD
  conv => arg 2; whnf
  rw [lit137 a h]
  simp only [g0, g1]
  clear h g0 g1 hD hv hn hl hy
  generalize cut v 4 = V at HC hQ
  go_region_held3 (fun w' => w'.cell? ⟨b, 74, none⟩ = some (.bool false)) (first | exact c74 | (rw [World.cell?_setCell_other _ _ _ _ (by intro h; simp only [Addr.mk.injEq] at h; omega)]; exact c74)) (first | (go_at_call 103; refine HC.out.mono ?_; rintro e w' ⟨rfl, n, rfl⟩) | fail)
  all_goals
    go_wp2
    refine ⟨⟨rfl, rfl⟩, rfl, rfl, ⟨?_, HD.out.len⟩, ?_⟩
    · exact (show Row (w.drewN (1 + n)) b 104 (digCells s x nx ln) from HD.out.row).set 7 (vw y)
    · exact (Tch.drewN (S := [b]) w (1 + n)).trans (Tch.setCell _ ⟨b, 7, none⟩ _ (by simp))
end Go.Proofs.Ytgomodhhomekpaa

/-
  UnmarshalBinary: what MarshalBinary has written is read back.
-/
namespace Go.Proofs.Ytgomodhhomekpaa
open Go.RowKit Pu Ar
/-- Bytes that may be read on, away from block b. -/
def Ats (w : World) (b : Nat) (v : Value) (l : By) : Prop := Rd w v l ∧ Nm v ∧ Off [b] v
theorem Ats.cut {w : World} {b : Nat} {v : Value} {l r : By} {k : Nat} (h : Ats w b v l) (hk : k ≤ l.length) (hr : l.drop k = r) : Ats w b (cut v k) r := by
  obtain ⟨h1, h2, h3⟩ := cut_rd h.1 h.2.1 k hk
  rw [hr] at h1
  exact ⟨h1, h2, h3 _ h.2.2⟩
theorem Ats.tch {w w' : World} {b : Nat} {v : Value} {l : By} (h : Ats w b v l) (k : Tch [b] w w') : Ats w' b v l := ⟨h.1.tch k h.2.2, h.2.1, h.2.2⟩
theorem str_magic : strOf magic = ⟨#[115, 104, 97, 3]⟩ := by
  apply ByteArray.ext
  apply Array.ext'
  exact strOf_list magic
theorem marsh_eq (s : S8) (ln : Nat) : marsh s ln = magic ++ (be32 s.a ++ (be32 s.b ++ (be32 s.c ++ (be32 s.d ++ (be32 s.e ++ (be32 s.f ++ (be32 s.g ++ (be32 s.h ++ (List.replicate 64 0 ++ be64 (UInt64.ofNat ln)))))))))) := by simp only [marsh, List.append_assoc, List.nil_append]
theorem digCells_put (s : S8) (x p : By) (nx ln : Nat) (hx : x.length = 64) (hp : p.length = 64) : (digCells s x nx ln).take 8 ++ (p.map vb ++ (digCells s x nx ln).drop (8 + 64)) = digCells s p nx ln := by
  unfold digCells
  have e8 : ([vw s.a, vw s.b, vw s.c, vw s.d, vw s.e, vw s.f, vw s.g, vw s.h] : List Value).length = 8 := rfl
  generalize ([vw s.a, vw s.b, vw s.c, vw s.d, vw s.e, vw s.f, vw s.g, vw s.h] : List Value) = H at e8 ⊢
  generalize ([.int .i64 (nx : Int), .int .u64 (ln : Int), .bool false] : List Value) = T
  rw [List.append_assoc, List.take_append_of_le_length (by omega), List.take_of_length_le (by omega), List.drop_append, List.drop_of_length_le (l := H) (by omega), List.nil_append, e8,
    List.drop_append, List.drop_of_length_le (l := x.map vb) (by simp; omega), List.nil_append]
  simp [hx, hp]
set_option maxHeartbeats 1000000 in
set_option maxRecDepth 100000 in
theorem digUnmarshal (b : Nat) (s0 : S8) (x0 : By) (nx0 ln0 : Nat) (v : Value) (s : S8) (ln : Nat) (w : World) (hD : Dig w b s0 x0 nx0 ln0) (hv : Rd w v (marsh s ln)) (hn : Nm v) (hoff : Off [b] v) (hln : ln < 18446744073709551616) (hmod : ln % 64 = 0) :
    Calls Try.prog 99 #[.pointer (some ⟨b, 0, none⟩), v] w fun e w' => e = .returned .nilIface ∧ Hid (Dig w' b s (List.replicate 64 0) 0 ln ∧ Tch [b] w w') := by
  have c74 := hD.is224
  have A : Ats w b v (marsh s ln) := ⟨hv, hn, hoff⟩
  obtain ⟨q, c, rfl⟩ := rd_ex hv
  rw [marsh_length] at hv A hn ⊢
  have hc : 108 ≤ c := by obtain ⟨_, _, e, h, _⟩ := hv; simp only [Value.slice.injEq] at e; obtain ⟨_, _, rfl⟩ := e; exact h
  have hs1 : ∀ w, (Instr.slice 24 (.slice q 108 c) none (some (.int .i64 4)) none).run Try.prog w = .ok (upto (.slice q 108 c) 4) w := fun w => run_upto w _ 108 c 4 q rfl hn (by omega)
  have hs2 : ∀ w, (Instr.slice 24 (.slice q 108 c) (some (.int .i64 4)) none none).run Try.prog w = .ok (cut (.slice q 108 c) 4) w := fun w => run_cut w _ 108 c 4 q rfl hn (by omega) (by omega)
  have hs3 : (convert 24 9 (upto (.slice q 108 c) 4)).run Try.prog w = .ok (.string ⟨#[115, 104, 97, 3]⟩) w := by
    have := run_string_of (upto_rd hv 4 (by rw [marsh_length]; omega))
    rwa [show (marsh s ln).take 4 = magic from rfl, str_magic] at this
  obtain ⟨u, hu⟩ : ∃ u, u = upto (.slice q 108 c) 4 := ⟨_, rfl⟩
  rw [← hu] at hs1 hs3
  have A0 : Hid (Ats w b (cut (.slice q 108 c) 4) (be32 s.a ++ (be32 s.b ++ (be32 s.c ++ (be32 s.d ++ (be32 s.e ++ (be32 s.f ++ (be32 s.g ++ (be32 s.h ++ (List.replicate 64 0 ++ be64 (UInt64.ofNat ln))))))))))) := A.cut (by rw [marsh_length]; omega) (by rw [marsh_eq]; rfl)
  have HD := Lib.hid hD
  have HLN := Lib.hid hln
  have HMOD := Lib.hid hmod
  have hnot : (Op.unary .not (.bool false)) = pure (.bool true) := rfl
  clear hD hv hn hoff hln hmod A hu hc
  obtain ⟨v0, hv0⟩ : ∃ v0, v0 = cut (.slice q 108 c) 4 := ⟨_, rfl⟩
  rw [← hv0] at hs2 A0
  clear hv0
  go_enter Try.func99, Try.ntmps99
  refine wp_seq_k (fun K0 k0 => ?_)
  have J0 := Lib.hid k0
  clear k0
  go_wp2
  refine J0.out _ _ (wp_seq_k (fun K1 k1 => ?_))
  have J1 := Lib.hid k1
  clear k1
  go_wp2
  refine J1.out _ _ (wp_seq_k (fun K2 k2 => ?_))
  have J2 := Lib.hid k2
  clear k2
  go_wp2
  refine J2.out _ _ (wp_seq_k (fun K3 k3 => ?_))
  have J3 := Lib.hid k3
  clear k3
  go_wp2
  refine J3.out _ _ (wp_seq_k (fun L0 l0 => ?_))
  have M0 := Lib.hid l0
  clear l0 c74 hs1 hs2 hs3 J0 J1 J2 J3
  have T0 : Hid (Tch [b] w w) := Tch.refl _ _
  have D0 := HD
  refine um0 _ w ⟨rfl, rfl⟩ _ b s0 x0 nx0 ln0 v0 (be32 s.a ++ (be32 s.b ++ (be32 s.c ++ (be32 s.d ++ (be32 s.e ++ (be32 s.f ++ (be32 s.g ++ (be32 s.h ++ (List.replicate 64 0 ++ be64 (UInt64.ofNat ln)))))))))) s.a D0.out A0.out.1 A0.out.2.1 (by show (4 : Nat) ≤ 104; omega) (un_be32 _ _) rfl rfl ?_
  rintro a1 w1 ⟨f1, p1, q1, h1⟩
  have D1 : Hid (Dig w1 b ⟨s.a, s0.b, s0.c, s0.d, s0.e, s0.f, s0.g, s0.h⟩ x0 nx0 ln0) := h1.out.1
  have T1 : Hid (Tch [b] w w1) := T0.out.trans h1.out.2
  have A1 : Hid (Ats w1 b (cut v0 4) (be32 s.b ++ (be32 s.c ++ (be32 s.d ++ (be32 s.e ++ (be32 s.f ++ (be32 s.g ++ (be32 s.h ++ (List.replicate 64 0 ++ be64 (UInt64.ofNat ln)))))))))) := (A0.out.cut (by show (4 : Nat) ≤ 104; omega) rfl).tch h1.out.2
  generalize cut v0 4 = v1 at q1 A1
  clear h1 D0 T0 A0
  refine M0.out _ _ (wp_seq_k (fun L1 l1 => ?_))
  have M1 := Lib.hid l1
  clear l1 M0
  refine um1 a1 w1 f1 _ b ⟨s.a, s0.b, s0.c, s0.d, s0.e, s0.f, s0.g, s0.h⟩ x0 nx0 ln0 v1 (be32 s.b ++ (be32 s.c ++ (be32 s.d ++ (be32 s.e ++ (be32 s.f ++ (be32 s.g ++ (be32 s.h ++ (List.replicate 64 0 ++ be64 (UInt64.ofNat ln))))))))) s.b D1.out A1.out.1 A1.out.2.1 (by show (4 : Nat) ≤ 100; omega) (un_be32 _ _) p1 q1 ?_
  rintro a2 w2 ⟨f2, p2, q2, h2⟩
  have D2 : Hid (Dig w2 b ⟨s.a, s.b, s0.c, s0.d, s0.e, s0.f, s0.g, s0.h⟩ x0 nx0 ln0) := h2.out.1
  have T2 : Hid (Tch [b] w w2) := T1.out.trans h2.out.2
  have A2 : Hid (Ats w2 b (cut v1 4) (be32 s.c ++ (be32 s.d ++ (be32 s.e ++ (be32 s.f ++ (be32 s.g ++ (be32 s.h ++ (List.replicate 64 0 ++ be64 (UInt64.ofNat ln))))))))) := (A1.out.cut (by show (4 : Nat) ≤ 100; omega) rfl).tch h2.out.2
  generalize cut v1 4 = v2 at q2 A2
  clear h2 D1 T1 A1
  refine M1.out _ _ (wp_seq_k (fun L2 l2 => ?_))
  have M2 := Lib.hid l2
  clear l2 M1
  refine um2 a2 w2 f2 _ b ⟨s.a, s.b, s0.c, s0.d, s0.e, s0.f, s0.g, s0.h⟩ x0 nx0 ln0 v2 (be32 s.c ++ (be32 s.d ++ (be32 s.e ++ (be32 s.f ++ (be32 s.g ++ (be32 s.h ++ (List.replicate 64 0 ++ be64 (UInt64.ofNat ln)))))))) s.c D2.out A2.out.1 A2.out.2.1 (by show (4 : Nat) ≤ 96; omega) (un_be32 _ _) p2 q2 ?_
  rintro a3 w3 ⟨f3, p3, q3, h3⟩
  have D3 : Hid (Dig w3 b ⟨s.a, s.b, s.c, s0.d, s0.e, s0.f, s0.g, s0.h⟩ x0 nx0 ln0) := h3.out.1
  have T3 : Hid (Tch [b] w w3) := T2.out.trans h3.out.2
  have A3 : Hid (Ats w3 b (cut v2 4) (be32 s.d ++ (be32 s.e ++ (be32 s.f ++ (be32 s.g ++ (be32 s.h ++ (List.replicate 64 0 ++ be64 (UInt64.ofNat ln)))))))) := (A2.out.cut (by show (4 : Nat) ≤ 96; omega) rfl).tch h3.out.2
  generalize cut v2 4 = v3 at q3 A3
  clear h3 D2 T2 A2
  refine M2.out _ _ (wp_seq_k (fun L3 l3 => ?_))
  have M3 := Lib.hid l3
  clear l3 M2
  refine um3 a3 w3 f3 _ b ⟨s.a, s.b, s.c, s0.d, s0.e, s0.f, s0.g, s0.h⟩ x0 nx0 ln0 v3 (be32 s.d ++ (be32 s.e ++ (be32 s.f ++ (be32 s.g ++ (be32 s.h ++ (List.replicate 64 0 ++ be64 (UInt64.ofNat ln))))))) s.d D3.out A3.out.1 A3.out.2.1 (by show (4 : Nat) ≤ 92; omega) (un_be32 _ _) p3 q3 ?_
  rintro a4 w4 ⟨f4, p4, q4, h4⟩
  have D4 : Hid (Dig w4 b ⟨s.a, s.b, s.c, s.d, s0.e, s0.f, s0.g, s0.h⟩ x0 nx0 ln0) := h4.out.1
  have T4 : Hid (Tch [b] w w4) := T3.out.trans h4.out.2
  have A4 : Hid (Ats w4 b (cut v3 4) (be32 s.e ++ (be32 s.f ++ (be32 s.g ++ (be32 s.h ++ (List.replicate 64 0 ++ be64 (UInt64.ofNat ln))))))) := (A3.out.cut (by show (4 : Nat) ≤ 92; omega) rfl).tch h4.out.2
  generalize cut v3 4 = v4 at q4 A4
  clear h4 D3 T3 A3
  refine M3.out _ _ (wp_seq_k (fun L4 l4 => ?_))
  have M4 := Lib.hid l4
  clear l4 M3
  refine um4 a4 w4 f4 _ b ⟨s.a, s.b, s.c, s.d, s0.e, s0.f, s0.g, s0.h⟩ x0 nx0 ln0 v4 (be32 s.e ++ (be32 s.f ++ (be32 s.g ++ (be32 s.h ++ (List.replicate 64 0 ++ be64 (UInt64.ofNat ln)))))) s.e D4.out A4.out.1 A4.out.2.1 (by show (4 : Nat) ≤ 88; omega) (un_be32 _ _) p4 q4 ?_
  rintro a5 w5 ⟨f5, p5, q5, h5⟩
  have D5 : Hid (Dig w5 b ⟨s.a, s.b, s.c, s.d, s.e, s0.f, s0.g, s0.h⟩ x0 nx0 ln0) := h5.out.1
  have T5 : Hid (Tch [b] w w5) := T4.out.trans h5.out.2
  have A5 : Hid (Ats w5 b (cut v4 4) (be32 s.f ++ (be32 s.g ++ (be32 s.h ++ (List.replicate 64 0 ++ be64 (UInt64.ofNat ln)))))) := (A4.out.cut (by show (4 : Nat) ≤ 88; omega) rfl).tch h5.out.2
  generalize cut v4 4 = v5 at q5 A5
  clear h5 D4 T4 A4
  refine M4.out _ _ (wp_seq_k (fun L5 l5 => ?_))
  have M5 := Lib.hid l5
  clear l5 M4
  refine um5 a5 w5 f5 _ b ⟨s.a, s.b, s.c, s.d, s.e, s0.f, s0.g, s0.h⟩ x0 nx0 ln0 v5 (be32 s.f ++ (be32 s.g ++ (be32 s.h ++ (List.replicate 64 0 ++ be64 (UInt64.ofNat ln))))) s.f D5.out A5.out.1 A5.out.2.1 (by show (4 : Nat) ≤ 84; omega) (un_be32 _ _) p5 q5 ?_
  rintro a6 w6 ⟨f6, p6, q6, h6⟩
  have D6 : Hid (Dig w6 b ⟨s.a, s.b, s.c, s.d, s.e, s.f, s0.g, s0.h⟩ x0 nx0 ln0) := h6.out.1
  have T6 : Hid (Tch [b] w w6) := T5.out.trans h6.out.2
  have A6 : Hid (Ats w6 b (cut v5 4) (be32 s.g ++ (be32 s.h ++ (List.replicate 64 0 ++ be64 (UInt64.ofNat ln))))) := (A5.out.cut (by show (4 : Nat) ≤ 84; omega) rfl).tch h6.out.2
  generalize cut v5 4 = v6 at q6 A6
  clear h6 D5 T5 A5
  refine M5.out _ _ (wp_seq_k (fun L6 l6 => ?_))
  have M6 := Lib.hid l6
  clear l6 M5
  refine um6 a6 w6 f6 _ b ⟨s.a, s.b, s.c, s.d, s.e, s.f, s0.g, s0.h⟩ x0 nx0 ln0 v6 (be32 s.g ++ (be32 s.h ++ (List.replicate 64 0 ++ be64 (UInt64.ofNat ln)))) s.g D6.out A6.out.1 A6.out.2.1 (by show (4 : Nat) ≤ 80; omega) (un_be32 _ _) p6 q6 ?_
  rintro a7 w7 ⟨f7, p7, q7, h7⟩
  have D7 : Hid (Dig w7 b ⟨s.a, s.b, s.c, s.d, s.e, s.f, s.g, s0.h⟩ x0 nx0 ln0) := h7.out.1
  have T7 : Hid (Tch [b] w w7) := T6.out.trans h7.out.2
  have A7 : Hid (Ats w7 b (cut v6 4) (be32 s.h ++ (List.replicate 64 0 ++ be64 (UInt64.ofNat ln)))) := (A6.out.cut (by show (4 : Nat) ≤ 80; omega) rfl).tch h7.out.2
  generalize cut v6 4 = v7 at q7 A7
  clear h7 D6 T6 A6
  refine M6.out _ _ (wp_seq_k (fun L7 l7 => ?_))
  have M7 := Lib.hid l7
  clear l7 M6
  refine um7 a7 w7 f7 _ b ⟨s.a, s.b, s.c, s.d, s.e, s.f, s.g, s0.h⟩ x0 nx0 ln0 v7 (be32 s.h ++ (List.replicate 64 0 ++ be64 (UInt64.ofNat ln))) s.h D7.out A7.out.1 A7.out.2.1 (by show (4 : Nat) ≤ 76; omega) (un_be32 _ _) p7 q7 ?_
  rintro a8 w8 ⟨f8, p8, q8, h8⟩
  have D8 : Hid (Dig w8 b ⟨s.a, s.b, s.c, s.d, s.e, s.f, s.g, s.h⟩ x0 nx0 ln0) := h8.out.1
  have T8 : Hid (Tch [b] w w8) := T7.out.trans h8.out.2
  have A8 : Hid (Ats w8 b (cut v7 4) (List.replicate 64 0 ++ be64 (UInt64.ofNat ln))) := (A7.out.cut (by show (4 : Nat) ≤ 76; omega) rfl).tch h8.out.2
  generalize cut v7 4 = v8 at q8 A8
  clear h8 D7 T7 A7
  refine M7.out _ _ (wp_seq_k (fun L8 l8 => ?_))
  have M8 := Lib.hid l8
  clear l8 M7
  have D8' : Hid (Dig w8 b s x0 nx0 ln0) := D8.out
  have hs4 : ∀ w, (Instr.slice 24 v8 (some (.int .i64 64)) none none).run Try.prog w = .ok (cut v8 64) w := nm_cut A8.out.1 A8.out.2.1 64 (by show (64 : Nat) ≤ 72; omega)
  have A9 : Hid (Ats w8 b (cut v8 64) (be64 (UInt64.ofNat ln))) := A8.out.cut (by show (64 : Nat) ≤ 72; omega) rfl
  generalize cut v8 64 = v9 at hs4 A9
  rw [lit137 a8 f8]
  simp only [p8, q8]
  clear f8 p8 q8 D8
  obtain ⟨D, hDD⟩ : ∃ D, D = digCells s x0 nx0 ln0 := ⟨_, rfl⟩
  have HDD := Lib.hid hDD
  have hrow : Row w8 b 104 D := by rw [hDD]; exact D8'.out.row
  have hlen : D.length = 75 := by rw [hDD, digCells_length, D8'.out.len]
  clear hDD
  obtain ⟨L, hL⟩ : ∃ L, L = List.replicate 64 0 ++ be64 (UInt64.ofNat ln) := ⟨_, rfl⟩
  rw [← hL] at A8
  have HL := Lib.hid hL
  have HL1 : Hid (64 = min L.length 64) := by rw [hL]; rfl
  clear hL
  go_wp2_with (refine wpList_copy_by rfl _ _ rfl b 8 64 64 v8 L 104 D 64 HL1.out rfl rfl A8.out.1 hrow (by omega) ?_)
  intro w9 h9
  have D9 : Hid (Dig w9 b s (List.replicate 64 0) nx0 ln0) := by
    refine ⟨?_, by simp⟩
    have e : Row w9 b 104 (D.take 8 ++ ((L.take 64).map vb ++ D.drop (8 + 64))) := by rw [List.map_take]; exact h9.out.1
    rw [HDD.out, HL.out, show (List.replicate 64 (0 : UInt8) ++ be64 (UInt64.ofNat ln)).take 64 = List.replicate 64 0 from rfl, digCells_put s x0 (List.replicate 64 0) nx0 ln0 D8'.out.len (by simp)] at e
    exact e
  have T9 : Hid (Tch [b] w w9) := T8.out.trans h9.out.2
  have A10 : Hid (Ats w9 b v9 (be64 (UInt64.ofNat ln))) := A9.out.tch h9.out.2
  clear h9 hrow hlen HDD T8 A8 A9 HL1 HL D8'
  go_wp2
  refine M8.out _ _ (wp_seq_k (fun L9 l9 => ?_))
  have M9 := Lib.hid l9
  clear l9 M8
  have hiq : iq (UInt64.ofNat ln) = (ln : Int) := by
    unfold iq
    rw [UInt64.toNat_ofNat', Nat.mod_eq_of_lt HLN.out]
  go_wp2_with (fail)
  refine (con64 v9 _ w9 A10.out.1 A10.out.2.1 (Nat.le_refl 8)).mono ?_
  rintro e w10 ⟨rfl, n10, rfl⟩
  have hu : un64 (be64 (UInt64.ofNat ln)) = UInt64.ofNat ln := by have := un_be64 (UInt64.ofNat ln) []; rwa [List.append_nil] at this
  rw [hu, hiq]
  clear hu hiq A10
  generalize cut v9 8 = v10
  have E10 : Dig (w9.drewN n10) b s (List.replicate 64 0) nx0 ln0 := D9.out.tch (S := []) (Tch.drewN _ _) (by simp)
  have c73 := E10.ln
  have f73 := E10.row.free 73
  clear E10
  go_wp2
  refine M9.out _ _ (wp_seq_k (fun L10 l10 => ?_))
  have M10 := Lib.hid l10
  clear l10 M9 c73 f73
  generalize hW : World.setCell _ _ _ = W
  have D11 : Hid (Dig W b s (List.replicate 64 0) nx0 ln) := by rw [← hW]; exact Dig.setLn (show Dig (w9.drewN n10) b s (List.replicate 64 0) nx0 ln0 from D9.out.tch (S := []) (Tch.drewN _ _) (by simp)) ln
  have T11 : Hid (Tch [b] w W) := by rw [← hW]; exact T9.out.trans ((Tch.drewN _ _).trans (Tch.setCell _ _ _ (by simp)))
  clear hW D9 T9
  have c73 := D11.out.ln
  have c72 := D11.out.nx
  have f72 := D11.out.row.free 72
  have hm : ((ln : Int)).tmod 64 = 0 := by have := HMOD.out; rw [Int.tmod_eq_emod_of_nonneg (by omega)]; omega
  have hb1 : (ln : Int) < 18446744073709551616 := by have := HLN.out; omega
  have hb0 : 0 ≤ (ln : Int) := by omega
  go_wp2
  refine M10.out _ _ ?_
  have D12 : Hid (Dig (W.setCell ⟨b, 72, none⟩ (.int .i64 0)) b s (List.replicate 64 0) 0 ln) := D11.out.setNx 0
  have T12 : Hid (Tch [b] w (W.setCell ⟨b, 72, none⟩ (.int .i64 0))) := T11.out.trans (Tch.setCell _ _ _ (by simp))
  clear c73 c72 f72 hm
  generalize World.setCell _ _ _ = V at D12 T12 ⊢
  go_wp2
  go_ret
  exact ⟨rfl, D12.out, T12.out⟩
end Go.Proofs.Ytgomodhhomekpaa

/-
  HMAC.Reset, HMAC.Sum where the state is kept written out.
-/
namespace Go.Proofs.Ytgomodhhomekpaa
open Go.RowKit Pu Ar
theorem taD (kt : List UInt32) (a : Addr) (w : World) : (Instr.typeAssert (.iface (hT (.sha kt)) (.pointer (some a))) 93 97 true).run Try.prog w = .ok (.tuple #[.iface (hT (.sha kt)) (.pointer (some a)), .bool true]) w := by kernel_rfl
theorem taDf (kt : List UInt32) (a : Addr) (w : World) : (Instr.typeAssert (.iface (hT (.sha kt)) (.pointer (some a))) 93 97 false).run Try.prog w = .ok (.iface (hT (.sha kt)) (.pointer (some a))) w := by kernel_rfl
theorem least_some (s : String) (l : List String) : ∃ m, Instr.least (s :: l) = some m := ⟨_, rfl⟩
theorem two_least (p : String → Bool) (f : String → String) (L : List String) (h : L ≠ []) : ∃ m, (Instr.least (L.filter (not ∘ p)) <|> Instr.least ((L.filter p).map f)) = some m := by
  cases h2 : L.filter (not ∘ p) with
  | cons s l =>
    obtain ⟨m, hm⟩ := least_some s l
    exact ⟨m, by rw [hm]; rfl⟩
  | nil =>
    cases h3 : L.filter p with
    | cons s l => exact least_some _ _
    | nil =>
      exfalso
      cases L with
      | nil => exact h rfl
      | cons s l =>
        have a1 := List.filter_eq_nil_iff.1 h2 s (by simp)
        have a2 := List.filter_eq_nil_iff.1 h3 s (by simp)
        simp only [Function.comp, Bool.not_eq_true] at a1 a2
        rw [a2] at a1; exact absurd a1 (by simp)
theorem missing_some {want : Array (String × TypeId)} {got : Array Method} (h : (want.toList.filter fun x => !got.any fun m => m.name == x.1 && m.sig == x.2).length ≠ 0) : ∃ m, Instr.missingMethod want got = some m := by
  unfold Instr.missingMethod
  simp only [List.partition_eq_filter_filter]
  refine two_least _ _ _ ?_
  intro e
  have := congrArg List.length e
  rw [List.length_map] at this
  exact h this
theorem ownLacks : ((Try.prog.underlying 97).bind fun d => match d with | .interface want => (Try.prog.info? 77).map fun i => decide ((want.toList.filter fun x => !i.methods.any fun m => m.name == x.1 && m.sig == x.2).length ≠ 0) | _ => none) = some true := by kernel_rfl
theorem taO (s bl : Nat) (a : Addr) (w : World) : (Instr.typeAssert (.iface (hT (.own s bl)) (.pointer (some a))) 93 97 true).run Try.prog w = .ok (.tuple #[.nilIface, .bool false]) w := by
  have h := ownLacks
  have hu := Try.underlying97
  rw [hu] at h
  simp only [Option.bind_some] at h
  obtain ⟨i, hi, hm⟩ := Option.map_eq_some_iff.1 h
  obtain ⟨m, hm⟩ := missing_some (of_decide_eq_true hm)
  have hz : (zeroValue 97).run Try.prog w = .ok .nilIface w := by kernel_rfl
  simp [Instr.typeAssert, run_underlying hu, hT, typeInfo, hi, hm, hz]
theorem mMar (kt : List UInt32) (a : Addr) (w : World) : (method 251 (hT (.sha kt)) (.pointer (some a)) "MarshalBinary").run Try.prog w = .ok (96, .pointer (some a)) w := by kernel_rfl
theorem mUnm (kt : List UInt32) (a : Addr) (w : World) : (method 251 (hT (.sha kt)) (.pointer (some a)) "UnmarshalBinary").run Try.prog w = .ok (99, .pointer (some a)) w := by kernel_rfl
/-- What Reset leaves where the state is written out from now on. -/
def RSD (kt : List UInt32) (F : HF) (o i : By) (w : World) (e : Ending) (w' : World) : Prop :=
  e = .returned (.tuple #[]) ∧ ∃ F' : HF, Hid (MacAt w' (.sha kt) F' (marsh (blocks kt init o) o.length) (marsh (blocks kt init i) i.length) i ∧ F'.mar = true ∧ F'.m = F.m ∧ Tch [F.m, F.bo, F.so, F.bi, F.si] w w' ∧ ∀ b ∈ F'.all, b ∈ F.all ∨ w.heap.size ≤ b)
theorem rsdEnd (kt : List UInt32) (F : HF) (o i : By) (w w5 : World) (g1 g2 : Nat) (mi mo : By) (M : MacAt w5 (.sha kt) F o i i) (T : Tch [F.bo, F.so, F.bi, F.si] w w5) (h1 : OwnC w5 g1 108 mi) (h2 : OwnC w5 g2 108 mo) (hi : mi.length = 108) (ho : mo.length = 108)
    (n1 : ∀ b ∈ F.all, b < g1) (n2 : ∀ b ∈ F.all, b < g2) (w1 : w.heap.size ≤ g1) (w2 : w.heap.size ≤ g2) :
    ∃ F' : HF, F'.mar = true ∧ F'.m = F.m ∧ MacAt (((w5.setCell ⟨F.m, 1, none⟩ (.slice (some ⟨g1, 0, none⟩) 108 108)).setCell ⟨F.m, 0, none⟩ (.slice (some ⟨g2, 0, none⟩) 108 108)).setCell ⟨F.m, 4, none⟩ (.bool true)) (.sha kt) F' mo mi i ∧
      Tch [F.m, F.bo, F.so, F.bi, F.si] w (((w5.setCell ⟨F.m, 1, none⟩ (.slice (some ⟨g1, 0, none⟩) 108 108)).setCell ⟨F.m, 0, none⟩ (.slice (some ⟨g2, 0, none⟩) 108 108)).setCell ⟨F.m, 4, none⟩ (.bool true)) ∧ ∀ b ∈ F'.all, b ∈ F.all ∨ w.heap.size ≤ b := by
  obtain ⟨lo, hlo⟩ := M.outer
  obtain ⟨a1, a2, a3, a4⟩ := M.m1
  obtain ⟨b1, b2, b3, b4, b5⟩ := M.k1
  have k : Tch [F.m] w5 (((w5.setCell ⟨F.m, 1, none⟩ (.slice (some ⟨g1, 0, none⟩) 108 108)).setCell ⟨F.m, 0, none⟩ (.slice (some ⟨g2, 0, none⟩) 108 108)).setCell ⟨F.m, 4, none⟩ (.bool true)) :=
    ((Tch.setCell _ _ _ (by simp)).trans (Tch.setCell _ _ _ (by simp))).trans (Tch.setCell _ _ _ (by simp))
  have x1 : ∀ b ∈ F.all, b ≠ g1 := fun b hb e => by have := n1 b hb; omega
  have x2 : ∀ b ∈ F.all, b ≠ g2 := fun b hb e => by have := n2 b hb; omega
  have m1 : F.m ∈ F.all := by simp [HF.all]
  have row := ((M.row.set 1 (.slice (some ⟨g1, 0, none⟩) 108 108)).set 0 (.slice (some ⟨g2, 0, none⟩) 108 108)).set 4 (.bool true)
  have H1 := h1.tch k (by simp only [List.mem_singleton]; exact fun e => x1 _ m1 e.symm)
  have H2 := h2.tch k (by simp only [List.mem_singleton]; exact fun e => x2 _ m1 e.symm)
  have r1 := H1.own.rd
  have r2 := H2.own.rd
  rw [hi] at r1
  rw [ho] at r2
  refine ⟨{ F with ov := .slice (some ⟨g2, 0, none⟩) 108 108, iv := .slice (some ⟨g1, 0, none⟩) 108 108, mar := true }, rfl, rfl, ⟨M.ok, row, ⟨lo, hlo.tch k (by simp [b1]) (by simp [Ne.symm a1]) (by simp [Ne.symm a2])⟩, M.inner.tch k (by simp [b1]) (by simp [Ne.symm a3]) (by simp [Ne.symm a4]), r2, r1,
    .inr ⟨_, _, _, _, rfl⟩, .inr ⟨_, _, _, _, rfl⟩, ?_, ?_, M.m1, M.k1, M.oi, ?_, ?_⟩, (T.mono (by simp +contextual)).trans (k.mono (by simp)), ?_⟩
  · intro b hb; simp only [Value.ownBlock, Option.some.injEq] at hb; subst hb; exact H2.lt
  · intro b hb; simp only [Value.ownBlock, Option.some.injEq] at hb; subst hb; exact H1.lt
  · intro b hb hm; simp only [Value.ownBlock, Option.some.injEq] at hb; subst hb
    exact x2 g2 (by simp only [HF.all, List.mem_cons, List.not_mem_nil, or_false] at hm ⊢; rcases hm with h | h | h | h | h <;> simp [h]) rfl
  · intro b hb hm; simp only [Value.ownBlock, Option.some.injEq] at hb; subst hb
    exact x1 g1 (by simp only [HF.all, List.mem_cons, List.not_mem_nil, or_false] at hm ⊢; rcases hm with h | h | h | h | h <;> simp [h]) rfl
  · intro b hb
    simp only [HF.all, Value.ownBlock, Option.toList, List.cons_append, List.nil_append, List.mem_cons, List.not_mem_nil, or_false] at hb
    rcases hb with h | h | h | h | h | h | h | h
    all_goals first | (left; simp [HF.all, h]; done) | (right; omega)
set_option maxHeartbeats 1000000 in
set_option maxRecDepth 100000 in
theorem macReset0 (kt : List UInt32) (F : HF) (o i l : By) (w : World) (h : MacAt w (.sha kt) F o i l) (hmar : F.mar = false) (hil : i.length = 64) (hol : o.length = 64) :
    Calls Try.prog 60 #[.pointer (some ⟨F.m, 0, none⟩)] w (RSD kt F o i w) := by
  have c3 : w.cell? ⟨F.m, 3, none⟩ = some (.iface (hT (.sha kt)) (.pointer (some ⟨F.bi, 0, none⟩))) := by rw [h.row.cell]; rfl
  have c4 : w.cell? ⟨F.m, 4, none⟩ = some (.bool false) := by rw [h.row.cell, ← hmar]; rfl
  have HM := Lib.hid h
  have HMAR := Lib.hid hmar
  have HIL := Lib.hid hil
  have HOL := Lib.hid hol
  clear h hmar hil hol
  have b1 := mReset (.sha kt)
  have b2 := cReset (.sha kt)
  have d1 := mWrite (.sha kt)
  have d2 := cWrite (.sha kt)
  have f1 := taD kt
  have f2 := mMar kt
  go_enter Try.func60, Try.ntmps60
  refine wp_seq_k (fun K0 k0 => ?_)
  have J0 := Lib.hid k0
  clear k0
  go_wp2
  refine J0.out _ _ (wp_seq_k (fun K1 k1 => ?_))
  have J1 := Lib.hid k1
  clear k1
  go_wp2_with (fail)
  refine (hReset (.sha kt) F.bi F.si l w HM.out.inner).mono ?_
  rintro e W1 ⟨rfl, h1⟩
  have M1 : Hid (MacAt W1 (.sha kt) F o i []) := HM.out.turnIn h1.out.2 h1.out.1
  have T1 : Hid (Tch [F.bi, F.si] w W1) := h1.out.2
  clear h1 c3 c4
  have c3 : W1.cell? ⟨F.m, 3, none⟩ = some (.iface (hT (.sha kt)) (.pointer (some ⟨F.bi, 0, none⟩))) := by rw [M1.out.row.cell]; rfl
  have c1 : W1.cell? ⟨F.m, 1, none⟩ = some F.iv := by rw [M1.out.row.cell]; rfl
  go_wp2
  refine J1.out _ _ (wp_seq_k (fun K2 k2 => ?_))
  have J2 := Lib.hid k2
  clear k2
  refine wp_region_quiet_tail 10 (by kernel_rfl) (by kernel_rfl) ?_
  simp only [List.take_succ_cons, List.take_zero, List.drop_succ_cons, List.drop_zero]
  repeat (go_big_quiet_step (fail))
  refine wpQuiet_nil ?_
  go_wp2_with (fail)
  have M1d : Hid (MacAt W1.drew (.sha kt) F o i []) := M1.out.tch (Tch.drewN (S := []) W1 1) (by simp)
  refine (hWrite (.sha kt) F.bi F.si [] i F.iv W1.drew M1d.out.inner M1d.out.ird M1d.out.inm (off_sub M1d.out.offi (by simp +contextual)) (by have := HIL.out; simp; omega)).mono ?_
  rintro e W2 ⟨rfl, h2⟩
  have M2 : Hid (MacAt W2 (.sha kt) F o i i) := M1d.out.turnIn h2.out.2 h2.out.1
  have T2 : Hid (Tch [F.bi, F.si] w W2) := T1.out.trans ((Tch.drewN W1 1).trans h2.out.2)
  clear h2 c1 c3 M1 M1d T1
  have c3 : W2.cell? ⟨F.m, 3, none⟩ = some (.iface (hT (.sha kt)) (.pointer (some ⟨F.bi, 0, none⟩))) := by rw [M2.out.row.cell]; rfl
  have c2 : W2.cell? ⟨F.m, 2, none⟩ = some (.iface (hT (.sha kt)) (.pointer (some ⟨F.bo, 0, none⟩))) := by rw [M2.out.row.cell]; rfl
  go_wp2
  refine J2.out _ _ (wp_seq_k (fun K3 k3 => ?_))
  have J3 := Lib.hid k3
  clear k3
  go_wp2
  refine J3.out _ _ (wp_seq_k (fun K4 k4 => ?_))
  have J4 := Lib.hid k4
  clear k4
  have hnot : (Op.unary .not (.bool true)) = pure (.bool false) := rfl
  go_wp2
  refine J4.out _ _ (wp_seq_k (fun K5 k5 => ?_))
  have J5 := Lib.hid k5
  clear k5
  go_wp2
  refine J5.out _ _ (wp_seq_k (fun K6 k6 => ?_))
  have J6 := Lib.hid k6
  clear k6
  go_wp2
  refine J6.out _ _ (wp_seq_k (fun K7 k7 => ?_))
  have J7 := Lib.hid k7
  clear k7
  go_wp2_with (fail)
  refine (digMarshal kt F.bi i W2 M2.out.inner.2.1 (by rw [HIL.out]) (by rw [HIL.out]; omega)).mono ?_
  rintro e W3 ⟨g1, rfl, h3⟩
  have M3 : Hid (MacAt W3 (.sha kt) F o i i) := M2.out.tch h3.out.2.1 (by simp)
  have T3 : Hid (Tch [F.bi, F.si] w W3) := T2.out.trans (h3.out.2.1.mono (by simp))
  have O3 := Lib.hid h3.out.1
  have N3 : Hid (∀ b ∈ F.all, b < g1) := fun b hb => Nat.lt_of_lt_of_le (M2.out.lt b hb) h3.out.2.2
  have S3 : Hid (w.heap.size ≤ g1) := Nat.le_trans T2.out.size h3.out.2.2
  clear h3 c2 c3 M2 T2
  go_wp2
  refine J7.out _ _ (wp_seq_k (fun K8 k8 => ?_))
  have J8 := Lib.hid k8
  clear k8
  go_wp2
  refine J8.out _ _ (wp_seq_k (fun K9 k9 => ?_))
  have J9 := Lib.hid k9
  clear k9
  have c2 : W3.cell? ⟨F.m, 2, none⟩ = some (.iface (hT (.sha kt)) (.pointer (some ⟨F.bo, 0, none⟩))) := by rw [M3.out.row.cell]; rfl
  go_wp2_with (fail)
  obtain ⟨lo, hlo⟩ := M3.out.outer
  refine (hReset (.sha kt) F.bo F.so lo W3 hlo).mono ?_
  rintro e W4 ⟨rfl, h4⟩
  have M4 : Hid (MacAt W4 (.sha kt) F o i i) := M3.out.turnOut h4.out.2 h4.out.1
  have Q4 : Hid (HIs W4 (.sha kt) F.bo F.so []) := h4.out.1
  have T4 : Hid (Tch [F.bo, F.so, F.bi, F.si] w W4) := (T3.out.mono (by simp +contextual)).trans (h4.out.2.mono (by simp +contextual))
  have G1 : Hid (g1 ∉ [F.bo, F.so]) := by
    intro hm
    simp only [List.mem_cons, List.not_mem_nil, or_false] at hm
    rcases hm with h | h
    · have := N3.out F.bo (by simp [HF.all]); omega
    · have := N3.out F.so (by simp [HF.all]); omega
  have O4 : Hid (OwnC W4 g1 108 (marsh (blocks kt init i) i.length)) := O3.out.tch h4.out.2 G1.out
  clear h4 c2 hlo lo M3 T3 O3
  have c2 : W4.cell? ⟨F.m, 2, none⟩ = some (.iface (hT (.sha kt)) (.pointer (some ⟨F.bo, 0, none⟩))) := by rw [M4.out.row.cell]; rfl
  have c0 : W4.cell? ⟨F.m, 0, none⟩ = some F.ov := by rw [M4.out.row.cell]; rfl
  go_wp2
  refine J9.out _ _ (wp_seq_k (fun KA kA => ?_))
  have JA := Lib.hid kA
  clear kA
  refine wp_region_quiet_tail 10 (by kernel_rfl) (by kernel_rfl) ?_
  simp only [List.take_succ_cons, List.take_zero, List.drop_succ_cons, List.drop_zero]
  repeat (go_big_quiet_step (fail))
  refine wpQuiet_nil ?_
  go_wp2_with (fail)
  have M4d : Hid (MacAt W4.drew (.sha kt) F o i i) := M4.out.tch (Tch.drewN (S := []) W4 1) (by simp)
  have Q4d : HIs W4.drew (.sha kt) F.bo F.so [] := Q4.out.tch (Tch.drewN (S := []) W4 1) (by simp) (by simp) (by simp)
  refine (hWrite (.sha kt) F.bo F.so [] o F.ov W4.drew Q4d M4d.out.ord M4d.out.onm (off_sub M4d.out.offo (by simp +contextual)) (by have := HOL.out; simp; omega)).mono ?_
  rintro e W5 ⟨rfl, h5⟩
  have M5 : Hid (MacAt W5 (.sha kt) F o i i) := M4d.out.turnOut h5.out.2 h5.out.1
  have Q5 : Hid (HIs W5 (.sha kt) F.bo F.so o) := h5.out.1
  have T5 : Hid (Tch [F.bo, F.so, F.bi, F.si] w W5) := T4.out.trans ((Tch.drewN W4 1).trans (h5.out.2.mono (by simp +contextual)))
  have O5 : Hid (OwnC W5 g1 108 (marsh (blocks kt init i) i.length)) := O4.out.tch ((Tch.drewN (S := [F.bo, F.so]) W4 1).trans h5.out.2) G1.out
  clear h5 c2 c0 M4 M4d Q4 Q4d T4 O4
  go_wp2
  refine JA.out _ _ (wp_seq_k (fun KB kB => ?_))
  have JB := Lib.hid kB
  clear kB
  go_wp2_with (fail)
  refine (digMarshal kt F.bo o W5 Q5.out.2.1 (by rw [HOL.out]) (by rw [HOL.out]; omega)).mono ?_
  rintro e W6 ⟨g2, rfl, h6⟩
  have M6 : Hid (MacAt W6 (.sha kt) F o i i) := M5.out.tch h6.out.2.1 (by simp)
  have T6 : Hid (Tch [F.bo, F.so, F.bi, F.si] w W6) := T5.out.trans (h6.out.2.1.mono (by simp))
  have O6 : Hid (OwnC W6 g1 108 (marsh (blocks kt init i) i.length)) := O5.out.tch h6.out.2.1 (by simp)
  have P6 := Lib.hid h6.out.1
  have N6 : Hid (∀ b ∈ F.all, b < g2) := fun b hb => Nat.lt_of_lt_of_le (M5.out.lt b hb) h6.out.2.2
  have S6 : Hid (w.heap.size ≤ g2) := Nat.le_trans T5.out.size h6.out.2.2
  clear h6 M5 T5 O5 Q5
  obtain ⟨F', f1', f2', M7, T7, N7⟩ := rsdEnd kt F o i w W6 g1 g2 _ _ M6.out T6.out O6.out P6.out (marsh_length _ _) (marsh_length _ _) N3.out N6.out S3.out S6.out
  have E : Hid (RSD kt F o i w (.returned (.tuple #[])) (((W6.setCell ⟨F.m, 1, none⟩ (.slice (some ⟨g1, 0, none⟩) 108 108)).setCell ⟨F.m, 0, none⟩ (.slice (some ⟨g2, 0, none⟩) 108 108)).setCell ⟨F.m, 4, none⟩ (.bool true))) := ⟨rfl, F', M7, f1', f2', T7, N7⟩
  have c0 : W6.cell? ⟨F.m, 0, none⟩ = some F.ov := by rw [M6.out.row.cell]; rfl
  have c1 : W6.cell? ⟨F.m, 1, none⟩ = some F.iv := by rw [M6.out.row.cell]; rfl
  have c4 : W6.cell? ⟨F.m, 4, none⟩ = some (.bool F.mar) := by rw [M6.out.row.cell]; rfl
  have fr := fun j => M6.out.row.free j
  clear M7 T7 N7 f1' f2' M6 T6 O6 P6 N6 S6 N3 S3 HM HMAR G1
  go_wp2
  refine JB.out _ _ (wp_seq_k (fun KC kC => ?_))
  have JC := Lib.hid kC
  clear kC
  go_wp2
  refine JC.out _ _ (wp_seq_k (fun KD kD => ?_))
  have JD := Lib.hid kD
  clear kD
  go_wp2
  refine JD.out _ _ (wp_seq_k (fun KE kE => ?_))
  have JE := Lib.hid kE
  clear kE
  go_wp2
  refine JE.out _ _ ?_
  go_wp2
  go_end0
  exact E.out
end Go.Proofs.Ytgomodhhomekpaa

/-
  HMAC.Sum and HMAC.Reset where the state is kept written out; Reset of the other hash.
-/
namespace Go.Proofs.Ytgomodhhomekpaa
open Go.RowKit Pu Ar
theorem digIs_of (kt : List UInt32) (b : Nat) (l : By) (w : World) (hl : l.length % 64 = 0) (hlen : l.length ≤ 1099511627776) (h : Dig w b (blocks kt init l) (List.replicate 64 0) 0 l.length) : DigIs w b kt l := by
  refine ⟨by omega, _, by rw [hl]; exact h, ?_⟩
  rw [hl, List.take_zero]
  exact (List.eq_nil_of_length_eq_zero (by rw [rest_length, hl])).symm
set_option maxHeartbeats 1000000 in
set_option maxRecDepth 100000 in
theorem macSum1 (kt : List UInt32) (F : HF) (o om i l xs : By) (v : Value) (w : World) (h : MacAt w (.sha kt) F om i l) (hmar : F.mar = true) (hom : om = marsh (blocks kt init o) o.length) (ho64 : o.length = 64)
    (hv : Own w v xs) (hvf : Off F.all v) (hl : l.length ≤ 1099511627776) (hol : o.length ≤ 549755813888) (hx : xs.length + 64 ≤ 140737488355328) :
    Calls Try.prog 46 #[.pointer (some ⟨F.m, 0, none⟩), v] w (HSE (.sha kt) F v om i l (xs ++ (Pu.HK.sha kt).hash (o ++ (Pu.HK.sha kt).hash l)) w) := by
  have c3 : w.cell? ⟨F.m, 3, none⟩ = some (.iface (hT (Pu.HK.sha kt)) (.pointer (some ⟨F.bi, 0, none⟩))) := by rw [h.row.cell]; rfl
  have H1 := Lib.hid (hSum (Pu.HK.sha kt) F.bi F.si l xs v w h.inner hv (off_sub hvf (by simp +contextual [HF.all])) hl (by omega))
  obtain ⟨vp, vc, hve⟩ := own_ex hv
  have HM := Lib.hid h
  have HMAR := Lib.hid hmar
  have HOM := Lib.hid hom
  have HO64 := Lib.hid ho64
  have HV := Lib.hid hv
  have HVF := Lib.hid hvf
  have HL := Lib.hid hl
  have HOL := Lib.hid hol
  have HX := Lib.hid hx
  have hs1 := h.ok.size_pos
  have hs2 := h.ok.size_le
  clear h hmar hv hvf hl hol hx hom ho64
  subst hve
  have a1 := mSum (Pu.HK.sha kt)
  have a2 := cSum (Pu.HK.sha kt)
  have b1 := mReset (Pu.HK.sha kt)
  have b2 := cReset (Pu.HK.sha kt)
  have d1 := mWrite (Pu.HK.sha kt)
  have d2 := cWrite (Pu.HK.sha kt)
  have f1 := taDf kt
  have f2 := mUnm kt
  go_enter Try.func46, Try.ntmps46
  refine wp_seq_k (fun K0 k0 => ?_)
  have J0 := Lib.hid k0
  clear k0
  go_wp2
  refine J0.out _ _ (wp_seq_k (fun K1 k1 => ?_))
  have J1 := Lib.hid k1
  clear k1
  go_wp2_with (fail)
  refine J1.out _ _ (wp_seq_k (fun K2 k2 => ?_))
  have J2 := Lib.hid k2
  clear k2
  go_wp2_with (fail)
  refine H1.out.mono ?_
  rintro e W1 ⟨v1, rfl, h1⟩
  obtain ⟨hw1, t1, f1⟩ := h1.out
  obtain ⟨g, cap, rfl, hc1, hc2⟩ := hw1.shape (by intro e; have := congrArg List.length e; rw [List.length_append, (Pu.HK.sha kt).hash_length] at this; simp at this; omega)
  have hsz : (xs ++ (Pu.HK.sha kt).hash l).length = xs.length + (Pu.HK.sha kt).size := by rw [List.length_append, (Pu.HK.sha kt).hash_length]
  have F1 : Off F.all (.slice (some ⟨g, 0, none⟩) (xs ++ (Pu.HK.sha kt).hash l).length cap) := Grew.offs h1.out HVF.out HM.out.lt
  have M1 : Hid (MacAt W1 (Pu.HK.sha kt) F om i l) := HM.out.tch t1 (fun b hb => off_list HVF.out hb)
  rw [hsz] at hw1 hc1 F1 ⊢
  obtain ⟨nx, hnx⟩ : ∃ nx, nx = xs.length := ⟨_, rfl⟩
  rw [← hnx] at hw1 hc1 F1 ⊢
  obtain ⟨N, hN⟩ : ∃ N, N = nx + (Pu.HK.sha kt).size := ⟨_, rfl⟩
  rw [← hN] at hw1 hc1 F1 ⊢
  have O1 := Lib.hid hw1
  have OF1 := Lib.hid F1
  have T1 := Lib.hid t1
  have FR1 := Lib.hid f1
  have HNX := Lib.hid hnx
  have HNN := Lib.hid hN
  have n1 : (nx : Int) ≤ N := by omega
  have n2 : (N : Int) ≤ cap := by exact_mod_cast hc1
  have n3 : (cap : Int) ≤ 9223372036854775807 := by unfold maxLen at hc2; omega
  have n4 : 0 ≤ (nx : Int) := by omega
  have n5 : ¬ cap = nx := by omega
  have c4 : W1.cell? ⟨F.m, 4, none⟩ = some (.bool true) := by rw [M1.out.row.cell, ← HMAR.out]; rfl
  have c2 : W1.cell? ⟨F.m, 2, none⟩ = some (.iface (hT (Pu.HK.sha kt)) (.pointer (some ⟨F.bo, 0, none⟩))) := by rw [M1.out.row.cell]; rfl
  clear h1 hw1 F1 t1 f1 hsz hc1 hc2 hnx hN hs1 hs2 c3
  go_wp2
  refine J2.out _ _ (wp_seq_k (fun K3 k3 => ?_))
  have J3 := Lib.hid k3
  clear k3 H1
  refine wp_seq_k (fun K2b k2b => ?_)
  have J2b := Lib.hid k2b
  clear k2b
  have c0 : W1.cell? ⟨F.m, 0, none⟩ = some F.ov := by rw [M1.out.row.cell]; rfl
  go_wp2
  refine J2b.out _ _ ?_
  clear J2b
  go_wp2
  refine wp_region_quiet_tail 11 (by kernel_rfl) (by kernel_rfl) ?_
  simp only [List.take_succ_cons, List.take_zero, List.drop_succ_cons, List.drop_zero]
  repeat (go_big_quiet_step (fail))
  refine wpQuiet_nil ?_
  go_wp2_with (fail)
  have M2d : Hid (MacAt W1.drew (Pu.HK.sha kt) F om i l) := M1.out.tch (Tch.drewN (S := []) W1 1) (by simp)
  obtain ⟨lo, ho1⟩ := M2d.out.outer
  obtain ⟨hk2, ⟨_, x2, hd2, _⟩, hsb⟩ := ho1
  refine (digUnmarshal F.bo _ x2 _ _ F.ov (blocks kt init o) o.length W1.drew hd2 (by have := M2d.out.ord; rwa [HOM.out] at this) M2d.out.onm (off_sub M2d.out.offo (by simp +contextual)) (by rw [HO64.out]; omega) (by rw [HO64.out])).mono ?_
  rintro e W3 ⟨rfl, h3'⟩
  have h3 : Hid (HIs W3 (Pu.HK.sha kt) F.bo F.so o ∧ Tch [F.bo, F.so] W1.drew W3) := ⟨⟨hk2.tch h3'.out.2 (hk2.notDig (kt' := kt) (l := lo) ⟨by assumption, x2, hd2, by assumption⟩), digIs_of kt F.bo o W3 (by rw [HO64.out]) (by rw [HO64.out]; omega) h3'.out.1, hsb⟩, h3'.out.2.mono (by simp +contextual)⟩
  clear h3' hk2 hd2 hsb
  have M3 : Hid (MacAt W3 (Pu.HK.sha kt) F om i l) := M2d.out.turnOut h3.out.2 h3.out.1
  have ho3 : Hid (HIs W3 (Pu.HK.sha kt) F.bo F.so o) := h3.out.1
  have T3 : Hid (Tch [F.bo, F.so] W1 W3) := (Tch.drewN W1 1).trans h3.out.2
  have O3 : Hid (Own W3 (.slice (some ⟨g, 0, none⟩) N cap) (xs ++ (Pu.HK.sha kt).hash l)) := O1.out.tch T3.out (off_sub OF1.out (by simp +contextual [HF.all]))
  clear h3 c2 c0 M2d
  have c2 : W3.cell? ⟨F.m, 2, none⟩ = some (.iface (hT (Pu.HK.sha kt)) (.pointer (some ⟨F.bo, 0, none⟩))) := by rw [M3.out.row.cell]; rfl
  go_wp2
  refine J3.out _ _ (wp_seq_k (fun K4 k4 => ?_))
  have J4 := Lib.hid k4
  clear k4
  refine wp_region_quiet_tail 9 (by kernel_rfl) (by kernel_rfl) ?_
  simp only [List.take_succ_cons, List.take_zero, List.drop_succ_cons, List.drop_zero]
  repeat (go_big_quiet_step (fail))
  refine wpQuiet_nil ?_
  go_wp2_with (fail)
  have M3d : Hid (MacAt W3.drew (Pu.HK.sha kt) F om i l) := M3.out.tch (Tch.drewN (S := []) W3 1) (by simp)
  have ho3d : HIs W3.drew (Pu.HK.sha kt) F.bo F.so o := ho3.out.tch (Tch.drewN (S := []) W3 1) (by simp) (by simp) (by simp)
  have O3d : Own W3.drew (.slice (some ⟨g, 0, none⟩) N cap) (xs ++ (Pu.HK.sha kt).hash l) := O3.out.tch (Tch.drewN (S := []) W3 1) (by intro i _; simp)
  refine (hWrite (Pu.HK.sha kt) F.bo F.so o ((Pu.HK.sha kt).hash l) _ W3.drew ho3d (O3d.tail HNX.out) (.inr ⟨_, _, _, _, rfl⟩) (by intro i hi; exact OF1.out i hi |> fun h hm => h (by simp only [HF.all, List.mem_cons, List.not_mem_nil, or_false] at hm ⊢; omega)) (by have := HOL.out; rw [List.length_append, (Pu.HK.sha kt).hash_length]; have := M3d.out.ok.size_le; omega)).mono ?_
  rintro e W4 ⟨rfl, h4⟩
  have M4 : Hid (MacAt W4 (Pu.HK.sha kt) F om i l) := M3d.out.turnOut h4.out.2 h4.out.1
  have ho4 : Hid (HIs W4 (Pu.HK.sha kt) F.bo F.so (o ++ (Pu.HK.sha kt).hash l)) := h4.out.1
  have T4 : Hid (Tch [F.bo, F.so] W1 W4) := T3.out.trans ((Tch.drewN W3 1).trans h4.out.2)
  have O4 : Hid (Own W4 (.slice (some ⟨g, 0, none⟩) N cap) (xs ++ (Pu.HK.sha kt).hash l)) := O1.out.tch T4.out (off_sub OF1.out (by simp +contextual [HF.all]))
  clear h4 c2 ho3d M3d M3 ho3 T3 O3 O3d
  have c2 : W4.cell? ⟨F.m, 2, none⟩ = some (.iface (hT (Pu.HK.sha kt)) (.pointer (some ⟨F.bo, 0, none⟩))) := by rw [M4.out.row.cell]; rfl
  have n6 : (nx : Int) ≤ cap := by omega
  go_wp2
  refine J4.out _ _ (wp_seq_k (fun K5 k5 => ?_))
  have J5 := Lib.hid k5
  clear k5
  refine wp_region_quiet_tail 9 (by kernel_rfl) (by kernel_rfl) ?_
  simp only [List.take_succ_cons, List.take_zero, List.drop_succ_cons, List.drop_zero]
  repeat (go_big_quiet_step (fail))
  refine wpQuiet_nil ?_
  go_wp2_with (fail)
  have M4d : Hid (MacAt W4.drew (Pu.HK.sha kt) F om i l) := M4.out.tch (Tch.drewN (S := []) W4 1) (by simp)
  have ho4d : HIs W4.drew (Pu.HK.sha kt) F.bo F.so (o ++ (Pu.HK.sha kt).hash l) := ho4.out.tch (Tch.drewN (S := []) W4 1) (by simp) (by simp) (by simp)
  have O4d : Own W4.drew (.slice (some ⟨g, 0, none⟩) N cap) (xs ++ (Pu.HK.sha kt).hash l) := O4.out.tch (Tch.drewN (S := []) W4 1) (by intro i _; simp)
  have O4e : Own W4.drew (.slice (some ⟨g, 0, none⟩) nx cap) xs := by
    have := O4d.len
    subst this
    rw [HNX.out]; exact O4d.front
  refine (hSum (Pu.HK.sha kt) F.bo F.so (o ++ (Pu.HK.sha kt).hash l) xs _ W4.drew ho4d O4e (by intro i hi hm; exact OF1.out i hi (by simp only [HF.all, List.mem_cons, List.not_mem_nil, or_false] at hm ⊢; omega)) (by have := HOL.out; rw [List.length_append, (Pu.HK.sha kt).hash_length]; have := M4d.out.ok.size_le; omega) (by have := HX.out; omega)).mono ?_
  rintro e W5 ⟨v5, rfl, h5⟩
  go_wp2
  refine J5.out _ _ ?_
  go_wp2
  go_ret
  obtain ⟨p1, p2, p3⟩ := h5.out
  have OFg : Off F.all (.slice (some ⟨g, 0, none⟩) nx cap) := fun i hi => OF1.out i hi
  refine ⟨v5, rfl, p1, M4d.out.tch p2 (fun b hb => off_list OFg hb), ?_, Grew.offs h5.out OFg M4d.out.lt, ?_⟩
  · have t : Tch (F.bo :: F.so :: (Value.slice vp xs.length vc).ownBlock.toList) w W4.drew := (T1.out.mono (by simp +contextual)).trans ((T4.out.trans (Tch.drewN W4 1)).mono (by simp +contextual))
    refine t.new p2 ?_
    intro b hb
    have hb' : b = g := by simpa [Value.ownBlock] using hb
    subst hb'
    rcases FR1.out with h | ⟨g2, h, hg⟩
    · left
      rw [← h]; simp [Value.ownBlock]
    · right
      have : b = g2 := by simpa [Value.ownBlock] using h
      rw [this]; exact hg
  · have ws : w.heap.size ≤ W4.drew.heap.size := Nat.le_trans T1.out.size T4.out.size
    rcases p3 with h | ⟨g2, h, hg⟩
    · rcases FR1.out with h' | ⟨g2, h', hg⟩
      · exact .inl (h.trans h')
      · exact .inr ⟨g2, h.trans h', hg⟩
    · exact .inr ⟨g2, h, Nat.le_trans ws hg⟩
/-- What Reset leaves where it turns the inner hash alone. -/
def RSI (hk : Pu.HK) (F : HF) (o i l : By) (w : World) (e : Ending) (w' : World) : Prop :=
  e = .returned (.tuple #[]) ∧ Hid (MacAt w' hk F o i l ∧ Tch [F.bi, F.si] w w')
set_option maxHeartbeats 1000000 in
set_option maxRecDepth 100000 in
theorem macReset1 (kt : List UInt32) (F : HF) (om im i l : By) (w : World) (h : MacAt w (.sha kt) F om im l) (hmar : F.mar = true) (him : im = marsh (blocks kt init i) i.length) (hi64 : i.length = 64) :
    Calls Try.prog 60 #[.pointer (some ⟨F.m, 0, none⟩)] w (RSI (.sha kt) F om im i w) := by
  have c3 : w.cell? ⟨F.m, 3, none⟩ = some (.iface (hT (.sha kt)) (.pointer (some ⟨F.bi, 0, none⟩))) := by rw [h.row.cell]; rfl
  have c4 : w.cell? ⟨F.m, 4, none⟩ = some (.bool true) := by rw [h.row.cell, ← hmar]; rfl
  have c1 : w.cell? ⟨F.m, 1, none⟩ = some F.iv := by rw [h.row.cell]; rfl
  have HM := Lib.hid h
  have HIM := Lib.hid him
  have HI64 := Lib.hid hi64
  clear h hmar him hi64
  have f1 := taDf kt
  have f2 := mUnm kt
  go_enter Try.func60, Try.ntmps60
  refine wp_seq_k (fun K0 k0 => ?_)
  have J0 := Lib.hid k0
  clear k0
  go_wp2
  refine wp_region_quiet_tail 11 (by kernel_rfl) (by kernel_rfl) ?_
  simp only [List.take_succ_cons, List.take_zero, List.drop_succ_cons, List.drop_zero]
  repeat (go_big_quiet_step (fail))
  refine wpQuiet_nil ?_
  go_wp2_with (fail)
  have M1 : Hid (MacAt w.drew (.sha kt) F om im l) := HM.out.tch (Tch.drewN (S := []) w 1) (by simp)
  obtain ⟨hk2, ⟨_, x2, hd2, _⟩, hsb⟩ := M1.out.inner
  refine (digUnmarshal F.bi _ x2 _ _ F.iv (blocks kt init i) i.length w.drew hd2 (by have := M1.out.ird; rwa [HIM.out] at this) M1.out.inm (off_sub M1.out.offi (by simp +contextual)) (by rw [HI64.out]; omega) (by rw [HI64.out])).mono ?_
  rintro e W3 ⟨rfl, h3⟩
  have M3 : Hid (MacAt W3 (.sha kt) F om im i) := M1.out.turnIn (h3.out.2.mono (by simp)) ⟨hk2.tch h3.out.2 (hk2.notDig (kt' := kt) (l := l) ⟨by assumption, x2, hd2, by assumption⟩), digIs_of kt F.bi i W3 (by rw [HI64.out]) (by rw [HI64.out]; omega) h3.out.1, hsb⟩
  have T3 : Hid (Tch [F.bi, F.si] w W3) := (Tch.drewN w 1).trans (h3.out.2.mono (by simp))
  clear h3 hk2 hd2 hsb c3 c4 c1
  go_wp2
  go_end0
  exact ⟨rfl, M3.out, T3.out⟩
set_option maxHeartbeats 1000000 in
set_option maxRecDepth 100000 in
theorem macResetO (s bl : Nat) (F : HF) (o i l : By) (w : World) (h : MacAt w (.own s bl) F o i l) (hmar : F.mar = false) (hil : i.length ≤ 64) :
    Calls Try.prog 60 #[.pointer (some ⟨F.m, 0, none⟩)] w (RSI (.own s bl) F o i i w) := by
  have c3 : w.cell? ⟨F.m, 3, none⟩ = some (.iface (hT (.own s bl)) (.pointer (some ⟨F.bi, 0, none⟩))) := by rw [h.row.cell]; rfl
  have c4 : w.cell? ⟨F.m, 4, none⟩ = some (.bool false) := by rw [h.row.cell, ← hmar]; rfl
  have HM := Lib.hid h
  have HIL := Lib.hid hil
  clear h hmar hil
  have b1 := mReset (.own s bl)
  have b2 := cReset (.own s bl)
  have d1 := mWrite (.own s bl)
  have d2 := cWrite (.own s bl)
  have f1 := taO s bl
  go_enter Try.func60, Try.ntmps60
  refine wp_seq_k (fun K0 k0 => ?_)
  have J0 := Lib.hid k0
  clear k0
  go_wp2
  refine J0.out _ _ (wp_seq_k (fun K1 k1 => ?_))
  have J1 := Lib.hid k1
  clear k1
  go_wp2_with (fail)
  refine (hReset (.own s bl) F.bi F.si l w HM.out.inner).mono ?_
  rintro e W1 ⟨rfl, h1⟩
  have M1 : Hid (MacAt W1 (.own s bl) F o i []) := HM.out.turnIn h1.out.2 h1.out.1
  have T1 : Hid (Tch [F.bi, F.si] w W1) := h1.out.2
  clear h1 c3 c4
  have c3 : W1.cell? ⟨F.m, 3, none⟩ = some (.iface (hT (.own s bl)) (.pointer (some ⟨F.bi, 0, none⟩))) := by rw [M1.out.row.cell]; rfl
  have c1 : W1.cell? ⟨F.m, 1, none⟩ = some F.iv := by rw [M1.out.row.cell]; rfl
  go_wp2
  refine J1.out _ _ (wp_seq_k (fun K2 k2 => ?_))
  have J2 := Lib.hid k2
  clear k2
  refine wp_region_quiet_tail 10 (by kernel_rfl) (by kernel_rfl) ?_
  simp only [List.take_succ_cons, List.take_zero, List.drop_succ_cons, List.drop_zero]
  repeat (go_big_quiet_step (fail))
  refine wpQuiet_nil ?_
  go_wp2_with (fail)
  have M1d : Hid (MacAt W1.drew (.own s bl) F o i []) := M1.out.tch (Tch.drewN (S := []) W1 1) (by simp)
  refine (hWrite (.own s bl) F.bi F.si [] i F.iv W1.drew M1d.out.inner M1d.out.ird M1d.out.inm (off_sub M1d.out.offi (by simp +contextual)) (by have := HIL.out; simp; omega)).mono ?_
  rintro e W2 ⟨rfl, h2⟩
  have M2 : Hid (MacAt W2 (.own s bl) F o i i) := M1d.out.turnIn h2.out.2 h2.out.1
  have T2 : Hid (Tch [F.bi, F.si] w W2) := T1.out.trans ((Tch.drewN W1 1).trans h2.out.2)
  clear h2 c1 c3 M1 M1d T1
  have c3 : W2.cell? ⟨F.m, 3, none⟩ = some (.iface (hT (.own s bl)) (.pointer (some ⟨F.bi, 0, none⟩))) := by rw [M2.out.row.cell]; rfl
  have hnot : (Op.unary .not (.bool false)) = pure (.bool true) := rfl
  go_wp2
  refine J2.out _ _ (wp_seq_k (fun K3 k3 => ?_))
  have J3 := Lib.hid k3
  clear k3
  go_wp2
  refine J3.out _ _ (wp_seq_k (fun K4 k4 => ?_))
  have J4 := Lib.hid k4
  clear k4
  go_wp2
  go_end0
  exact ⟨rfl, M2.out, T2.out⟩
end Go.Proofs.Ytgomodhhomekpaa

/-
  An HMAC under a key, whichever way its state is kept: Write, Sum, Reset, Size, BlockSize, the mark.
-/
namespace Go.Proofs.Ytgomodhhomekpaa
open Go.RowKit Pu Ar
/-- An HMAC under the key that has taken in l. -/
def KM (w : World) (hk : Pu.HK) (F : HF) (key l : By) : Prop :=
  (MacAt w hk F (opad hk key) (ipad hk key) (ipad hk key ++ l) ∧ F.mar = false) ∨
  ∃ kt, hk = .sha kt ∧ F.mar = true ∧ MacAt w hk F (marsh (blocks kt init (opad hk key)) (opad hk key).length) (marsh (blocks kt init (ipad hk key)) (ipad hk key).length) (ipad hk key ++ l)
theorem KM.at {w : World} {hk : Pu.HK} {F : HF} {key l : By} (h : KM w hk F key l) : ∃ o i, MacAt w hk F o i (ipad hk key ++ l) := by
  rcases h with ⟨h, _⟩ | ⟨_, _, _, h⟩
  · exact ⟨_, _, h⟩
  · exact ⟨_, _, h⟩
theorem KM.ok {w : World} {hk : Pu.HK} {F : HF} {key l : By} (h : KM w hk F key l) : hk.ok := by obtain ⟨_, _, h⟩ := h.at; exact h.ok
theorem KM.lt {w : World} {hk : Pu.HK} {F : HF} {key l : By} (h : KM w hk F key l) : ∀ b ∈ F.all, b < w.heap.size := by obtain ⟨_, _, h⟩ := h.at; exact h.lt
theorem KM.tch {S : List Nat} {w w' : World} {hk : Pu.HK} {F : HF} {key l : By} (h : KM w hk F key l) (k : Tch S w w') (hS : ∀ b ∈ F.all, b ∉ S) : KM w' hk F key l := by
  rcases h with ⟨h, m⟩ | ⟨kt, e, m, h⟩
  · exact .inl ⟨h.tch k hS, m⟩
  · exact .inr ⟨kt, e, m, h.tch k hS⟩
theorem KM.tchNil {w w' : World} {hk : Pu.HK} {F : HF} {key l : By} (h : KM w hk F key l) (k : Tch [] w w') : KM w' hk F key l := h.tch k (by simp)
theorem kmNew {w0 w : World} {hk : Pu.HK} {key : By} {e : Ending} (h : HNE w0 hk key e w) :
    ∃ F : HF, e = .returned (.pointer (some ⟨F.m, 0, none⟩)) ∧ Hid (KM w hk F key [] ∧ Tch [] w0 w ∧ ∀ b ∈ F.all, b = 0 ∨ w0.heap.size ≤ b) := by
  obtain ⟨F, he, hh⟩ := h
  exact ⟨F, he, .inl ⟨by rw [List.append_nil]; exact hh.out.1, hh.out.2.1⟩, hh.out.2.2.1, hh.out.2.2.2⟩
theorem kmWrite (hk : Pu.HK) (F : HF) (key l p : By) (v : Value) (w : World) (h : KM w hk F key l) (hv : Rd w v p) (hn : Nm v) (hoff : Off [F.bi, F.si] v) (hlen : (l ++ p).length ≤ 549755813888) :
    Calls Try.prog 44 #[.pointer (some ⟨F.m, 0, none⟩), v] w fun e w' => e = .returned (.tuple #[.int .i64 p.length, .nilIface]) ∧ Hid (KM w' hk F key (l ++ p) ∧ Tch [F.bi, F.si] w w') := by
  have hb : (ipad hk key ++ l ++ p).length ≤ 1099511627776 := by
    rw [List.append_assoc, List.length_append, ipad_length h.ok]; have := h.ok.block_le; omega
  rcases h with ⟨h, m⟩ | ⟨kt, e, m, h⟩
  · refine (macWrite hk F _ _ _ p v w h hv hn hoff hb).mono ?_
    rintro e w' ⟨rfl, h1⟩
    exact ⟨rfl, .inl ⟨by rw [← List.append_assoc]; exact h1.out.1, m⟩, h1.out.2⟩
  · refine (macWrite hk F _ _ _ p v w h hv hn hoff hb).mono ?_
    rintro e w' ⟨rfl, h1⟩
    exact ⟨rfl, .inr ⟨kt, by assumption, m, by rw [← List.append_assoc]; exact h1.out.1⟩, h1.out.2⟩
/-- What Sum leaves. -/
def KSE (hk : Pu.HK) (F : HF) (key l : By) (v : Value) (res : By) (w : World) (e : Ending) (w' : World) : Prop :=
  ∃ v', e = .returned v' ∧ Hid (Own w' v' res ∧ KM w' hk F key l ∧ Tch (F.bo :: F.so :: v.ownBlock.toList) w w' ∧ Off F.all v' ∧ (v'.ownBlock = v.ownBlock ∨ ∃ g, v'.ownBlock = some g ∧ w.heap.size ≤ g))
theorem kmSum (hk : Pu.HK) (F : HF) (key l xs : By) (v : Value) (w : World) (h : KM w hk F key l) (hv : Own w v xs) (hvf : Off F.all v) (hl : l.length ≤ 549755813888) (hx : xs.length + 64 ≤ 140737488355328) :
    Calls Try.prog 46 #[.pointer (some ⟨F.m, 0, none⟩), v] w (KSE hk F key l v (xs ++ mac hk key l) w) := by
  have hb : (ipad hk key ++ l).length ≤ 1099511627776 := by
    rw [List.length_append, ipad_length h.ok]; have := h.ok.block_le; omega
  have ho : (opad hk key).length ≤ 549755813888 := by
    rw [opad_length h.ok]; have := h.ok.block_le; omega
  rcases h with ⟨h, m⟩ | ⟨kt, rfl, m, h⟩
  · refine (macSum0 hk F _ _ _ xs v w h m hv hvf hb ho hx).mono ?_
    rintro e w' ⟨v', rfl, h1⟩
    exact ⟨v', rfl, h1.out.1, .inl ⟨h1.out.2.1, m⟩, h1.out.2.2.1, h1.out.2.2.2.1, h1.out.2.2.2.2⟩
  · have hok := h.ok
    refine (macSum1 kt F (opad (.sha kt) key) _ _ _ xs v w h m rfl (by rw [opad_length hok]; rfl) hv hvf hb ho hx).mono ?_
    rintro e w' ⟨v', rfl, h1⟩
    exact ⟨v', rfl, h1.out.1, .inr ⟨kt, rfl, m, h1.out.2.1⟩, h1.out.2.2.1, h1.out.2.2.2.1, h1.out.2.2.2.2⟩
/-- What Reset leaves. -/
def KRE (hk : Pu.HK) (F : HF) (key : By) (w : World) (e : Ending) (w' : World) : Prop :=
  e = .returned (.tuple #[]) ∧ ∃ F' : HF, Hid (KM w' hk F' key [] ∧ F'.m = F.m ∧ Tch [F.m, F.bo, F.so, F.bi, F.si] w w' ∧ ∀ b ∈ F'.all, b ∈ F.all ∨ w.heap.size ≤ b)
theorem kmReset (hk : Pu.HK) (F : HF) (key l : By) (w : World) (h : KM w hk F key l) :
    Calls Try.prog 60 #[.pointer (some ⟨F.m, 0, none⟩)] w (KRE hk F key w) := by
  have hok := h.ok
  have hi := ipad_length hok key
  have ho := opad_length hok key
  rcases h with ⟨h, m⟩ | ⟨kt, rfl, m, h⟩
  · cases hk with
    | sha kt =>
      refine (macReset0 kt F _ _ _ w h m hi ho).mono ?_
      rintro e w' ⟨rfl, F', h1⟩
      exact ⟨rfl, F', .inr ⟨kt, rfl, h1.out.2.1, by rw [List.append_nil]; exact h1.out.1⟩, h1.out.2.2.1, h1.out.2.2.2.1, h1.out.2.2.2.2⟩
    | own s bl =>
      refine (macResetO s bl F _ _ _ w h m (by rw [hi]; exact hok.block_le)).mono ?_
      rintro e w' ⟨rfl, h1⟩
      exact ⟨rfl, F, .inl ⟨by rw [List.append_nil]; exact h1.out.1, m⟩, rfl, h1.out.2.mono (by simp +contextual), fun b hb => .inl hb⟩
  · refine (macReset1 kt F _ _ (ipad (.sha kt) key) _ w h m rfl hi).mono ?_
    rintro e w' ⟨rfl, h1⟩
    exact ⟨rfl, F, .inr ⟨kt, rfl, m, by rw [List.append_nil]; exact h1.out.1⟩, rfl, h1.out.2.mono (by simp +contextual), fun b hb => .inl hb⟩
theorem KM.row {w : World} {hk : Pu.HK} {F : HF} {key l : By} (h : KM w hk F key l) : Row w F.m 95 (hmCells hk F.ov F.iv F.bo F.bi F.mar F.kdf F.n) := by obtain ⟨_, _, h⟩ := h.at; exact h.row
set_option maxRecDepth 100000 in
theorem kmMark (hk : Pu.HK) (F : HF) (key l : By) (w : World) (h : KM w hk F key l) :
    Calls Try.prog 68 #[.pointer (some ⟨F.m, 0, none⟩)] w fun e w' => e = .returned (.tuple #[]) ∧ Hid (KM w' hk { F with kdf := true } key l ∧ Tch [F.m] w w') := by
  have c5 : w.cell? ⟨F.m, 5, none⟩ = some (.bool F.kdf) := by rw [h.row.cell]; rfl
  have f5 := h.row.free 5
  have H := Lib.hid h
  clear h
  go_enter Try.func68, Try.ntmps68
  go_wp2
  go_end0
  have k : Tch [F.m] w (w.setCell ⟨F.m, 5, none⟩ (.bool true)) := Tch.setCell _ _ _ (by simp)
  have turn : ∀ o i, MacAt w hk F o i (ipad hk key ++ l) → MacAt (w.setCell ⟨F.m, 5, none⟩ (.bool true)) hk { F with kdf := true } o i (ipad hk key ++ l) := by
    intro o i M
    obtain ⟨lo, hlo⟩ := M.outer
    obtain ⟨a1, a2, a3, a4⟩ := M.m1
    obtain ⟨b1, b2, b3, b4, b5⟩ := M.k1
    exact ⟨M.ok, M.row.set 5 (.bool true), ⟨lo, hlo.tch k (by simp [b1]) (by simp [Ne.symm a1]) (by simp [Ne.symm a2])⟩, M.inner.tch k (by simp [b1]) (by simp [Ne.symm a3]) (by simp [Ne.symm a4]),
      M.ord.tch k (off_sub M.offo (by simp)), M.ird.tch k (off_sub M.offi (by simp)), M.onm, M.inm, fun b hb => Nat.lt_of_lt_of_le (M.olt b hb) k.size, fun b hb => Nat.lt_of_lt_of_le (M.ilt b hb) k.size, M.m1, M.k1, M.oi, M.offo, M.offi⟩
  refine ⟨rfl, ?_, k⟩
  rcases H.out with ⟨h, m⟩ | ⟨kt, e, m, h⟩
  · exact .inl ⟨turn _ _ h, m⟩
  · exact .inr ⟨kt, e, m, turn _ _ h⟩
set_option maxRecDepth 100000 in
theorem kmSize (hk : Pu.HK) (F : HF) (key l : By) (w : World) (h : KM w hk F key l) :
    Calls Try.prog 61 #[.pointer (some ⟨F.m, 0, none⟩)] w fun e w' => e = .returned (.int .i64 hk.size) ∧ w = w' := by
  have c2 : w.cell? ⟨F.m, 2, none⟩ = some (.iface (hT hk) (.pointer (some ⟨F.bo, 0, none⟩))) := by rw [h.row.cell]; rfl
  obtain ⟨_, _, M⟩ := h.at
  obtain ⟨lo, hlo⟩ := M.outer
  have HC := Lib.hid (hSize hk F.bo F.so lo w hlo)
  have e1 := mSize hk
  have e2 := cSize hk
  clear h M hlo lo
  go_enter Try.func61, Try.ntmps61
  go_wp2_with (fail)
  refine HC.out.mono ?_
  rintro e w' ⟨rfl, rfl⟩
  go_wp2
  go_ret
  exact ⟨rfl, rfl⟩
set_option maxRecDepth 100000 in
theorem kmBlock (hk : Pu.HK) (F : HF) (key l : By) (w : World) (h : KM w hk F key l) :
    Calls Try.prog 62 #[.pointer (some ⟨F.m, 0, none⟩)] w fun e w' => e = .returned (.int .i64 hk.block) ∧ w = w' := by
  have c3 : w.cell? ⟨F.m, 3, none⟩ = some (.iface (hT hk) (.pointer (some ⟨F.bi, 0, none⟩))) := by rw [h.row.cell]; rfl
  obtain ⟨_, _, M⟩ := h.at
  have HC := Lib.hid (hBlock hk F.bi F.si _ w M.inner)
  have e1 := mBlockSize hk
  have e2 := cBlockSize hk
  clear h M
  go_enter Try.func62, Try.ntmps62
  go_wp2_with (fail)
  refine HC.out.mono ?_
  rintro e w' ⟨rfl, rfl⟩
  go_wp2
  go_ret
  exact ⟨rfl, rfl⟩
end Go.Proofs.Ytgomodhhomekpaa

/-
  hkdf.Extract; impl.Extract.
-/
namespace Go.Proofs.Ytgomodhhomekpaa
open Go.RowKit Pu Ar
/-- What a call hands back that makes bytes of its own. -/
def BYE (w : World) (l : By) (e : Ending) (w' : World) : Prop := ∃ v', e = .returned v' ∧ Hid (Grew w w' (.slice none 0 0) v' l)
theorem BYE.earlier {w w1 w' : World} {l : By} {e : Ending} (h : BYE w1 l e w') (k : Tch [] w w1) : BYE w l e w' := by
  obtain ⟨v', he, h1⟩ := h
  refine ⟨v', he, h1.out.1, k.trans h1.out.2.1, ?_⟩
  rcases h1.out.2.2 with h | ⟨g, h, hg⟩
  · exact .inl h
  · exact .inr ⟨g, h, Nat.le_trans k.size hg⟩
/-- Blocks that are new since wb, the table aside. -/
def NewF (wb : World) (F : HF) : Prop := ∀ b ∈ F.all, b = 0 ∨ wb.heap.size ≤ b
theorem NewF.blk {wb w : World} {hk : Pu.HK} {F : HF} {key l : By} (h : NewF wb F) (k : KM w hk F key l) : wb.heap.size ≤ F.m ∧ wb.heap.size ≤ F.bo ∧ wb.heap.size ≤ F.so ∧ wb.heap.size ≤ F.bi ∧ wb.heap.size ≤ F.si := by
  obtain ⟨_, _, M⟩ := k.at
  have k1 := M.k1
  refine ⟨?_, ?_, ?_, ?_, ?_⟩
  · rcases h F.m (by simp [HF.all]) with h | h
    · exact absurd h.symm k1.1
    · exact h
  · rcases h F.bo (by simp [HF.all]) with h | h
    · exact absurd h.symm k1.2.1
    · exact h
  · rcases h F.so (by simp [HF.all]) with h | h
    · exact absurd h.symm k1.2.2.1
    · exact h
  · rcases h F.bi (by simp [HF.all]) with h | h
    · exact absurd h.symm k1.2.2.2.1
    · exact h
  · rcases h F.si (by simp [HF.all]) with h | h
    · exact absurd h.symm k1.2.2.2.2
    · exact h
theorem NewF.earlier {w w1 : World} {F : HF} (h : NewF w1 F) (k : w.heap.size ≤ w1.heap.size) : NewF w F := by
  intro b hb
  rcases h b hb with h | h
  · exact .inl h
  · exact .inr (Nat.le_trans k h)
/-- Only new blocks have turned. -/
theorem tchNew {S : List Nat} {wb w w' : World} (h : Tch [] wb w) (k : Tch S w w') (hS : ∀ b ∈ S, wb.heap.size ≤ b) : Tch [] wb w' := h.new k (fun i hi => .inr (hS i hi))
set_option maxRecDepth 100000 in
theorem exTailD (kt : List UInt32) (a : Act) (w0 w : World) (h : Frm 25 a) (secret key : By) (v u : Value) (hT : Tch [] w0 w) (hK : KIs w kt) (hv : Rd w v secret) (hvn : Nm v) (hvl : ∀ b, v.ownBlock = some b → b < w.heap.size)
    (hu : Rd w u key) (hun : Nm u) (hul : ∀ b, u.ownBlock = some b → b < w.heap.size) (hsl : secret.length ≤ 549755813888) (hkl : key.length ≤ 549755813888)
    (g0 : G a 0 = (.func (.func 49) #[] #[])) (g1 : G a 1 = v) (g2 : G a 2 = u) (g6 : G a 6 = .slice none 0 0) :
    (part (bodyOf Try.f54) [true, true]).wp Try.prog (bodyPost Try.prog Try.f54 (BYE w0 (mac (Pu.HK.sha kt) key secret))) a w := by
  conv => arg 2; whnf
  rw [lit25 a h]
  simp only [g0, g1, g2, g6]
  have HT := Lib.hid hT
  have HK := Lib.hid hK
  have HV := Lib.hid hv
  have HVN := Lib.hid hvn
  have HVL := Lib.hid hvl
  have HU := Lib.hid hu
  have HUN := Lib.hid hun
  have HUL := Lib.hid hul
  have HSL := Lib.hid hsl
  have HKL := Lib.hid hkl
  clear h g0 g1 g2 g6 hT hK hv hvn hvl hu hun hul hsl hkl
  refine wp_seq_k (fun K0 k0 => ?_)
  have J0 := Lib.hid k0
  clear k0
  go_wp2_with (fail)
  refine (hmNewD kt key u w HK.out HU.out HUN.out HUL.out (by have := HKL.out; omega)).mono ?_
  intro e W1 hn0
  obtain ⟨F, rfl, h1⟩ := kmNew hn0
  clear hn0
  have M1 := Lib.hid h1.out.1
  have T1 : Hid (Tch [] w W1) := h1.out.2.1
  have N1 : Hid (NewF w F) := h1.out.2.2
  clear h1
  go_wp2
  refine J0.out _ _ (wp_seq_k (fun K1 k1 => ?_))
  have J1 := Lib.hid k1
  clear k1
  go_wp2_with (fail)
  refine (kmMark (Pu.HK.sha kt) F key [] W1 M1.out).mono ?_
  rintro e W2 ⟨rfl, h2⟩
  obtain ⟨F2, hF2⟩ : ∃ F2, F2 = { F with kdf := true } := ⟨_, rfl⟩
  have M2 : Hid (KM W2 (Pu.HK.sha kt) F2 key []) := by rw [hF2]; exact h2.out.1
  have B1 := N1.out.blk M1.out
  have T2 : Hid (Tch [] w W2) := tchNew T1.out h2.out.2 (by intro b hb; rw [List.mem_singleton.1 hb]; exact B1.1)
  have N2 : Hid (NewF w F2) := by rw [hF2]; exact N1.out
  have em : F.m = F2.m := by rw [hF2]
  rw [em]
  clear h2 B1 hF2 em N1 M1 T1
  go_wp2
  refine J1.out _ _ (wp_seq_k (fun K2 k2 => ?_))
  have J2 := Lib.hid k2
  clear k2
  have B2 : Hid (w.heap.size ≤ F2.m ∧ w.heap.size ≤ F2.bo ∧ w.heap.size ≤ F2.so ∧ w.heap.size ≤ F2.bi ∧ w.heap.size ≤ F2.si) := N2.out.blk M2.out
  go_wp2_with (fail)
  refine (kmWrite (Pu.HK.sha kt) F2 key [] secret v W2 M2.out (HV.out.tchNil T2.out) HVN.out (by
    intro b hb hm
    have := HVL.out b hb
    have := B2.out
    simp only [List.mem_cons, List.not_mem_nil, or_false] at hm
    omega) (by have := HSL.out; simpa using this)).mono ?_
  rintro e W3 ⟨rfl, h3⟩
  have M3 : Hid (KM W3 (Pu.HK.sha kt) F2 key secret) := h3.out.1
  have T3 : Hid (Tch [] w W3) := tchNew T2.out h3.out.2 (by intro b hb; have := B2.out; simp only [List.mem_cons, List.not_mem_nil, or_false] at hb; omega)
  clear h3 M2 T2
  go_wp2
  refine J2.out _ _ (wp_seq_k (fun K3 k3 => ?_))
  have J3 := Lib.hid k3
  clear k3
  go_wp2_with (fail)
  refine (kmSum (Pu.HK.sha kt) F2 key secret [] (.slice none 0 0) W3 M3.out (Own.nil _) (by intro b hb; cases hb) HSL.out (by simp)).mono ?_
  rintro e W4 ⟨v4, rfl, h4⟩
  go_wp2
  refine J3.out _ _ ?_
  go_wp2
  go_ret
  refine ⟨v4, rfl, h4.out.1, (HT.out.trans T3.out).new h4.out.2.2.1 ?_, ?_⟩
  · intro i hi
    right
    have := B2.out
    have hi' : i = F2.bo ∨ i = F2.so := by simpa [Value.ownBlock] using hi
    have := HT.out.size
    rcases hi' with rfl | rfl <;> omega
  · rcases h4.out.2.2.2.2 with h | ⟨g, h, hg⟩
    · exact .inl h
    · exact .inr ⟨g, h, Nat.le_trans (HT.out.trans T3.out).size hg⟩
set_option maxRecDepth 100000 in
/-- hkdf.Extract. -/
theorem kExtractD (kt : List UInt32) (secret salt : By) (v u : Value) (w : World) (hK : KIs w kt) (hv : Rd w v secret) (hvn : Nm v) (hvl : ∀ b, v.ownBlock = some b → b < w.heap.size)
    (hu : Rd w u salt) (hun : Nm u) (hul : ∀ b, u.ownBlock = some b → b < w.heap.size) (hnil : u = .slice none 0 0 ↔ salt = []) (hsl : secret.length ≤ 549755813888) (hkl : salt.length ≤ 549755813888) :
    Calls Try.prog 54 #[(.func (.func 49) #[] #[]), v, u] w (BYE w (extract (Pu.HK.sha kt) secret salt)) := by
  have HK := Lib.hid hK
  have HV := Lib.hid hv
  have HVN := Lib.hid hvn
  have HVL := Lib.hid hvl
  have HU := Lib.hid hu
  have HUN := Lib.hid hun
  have HUL := Lib.hid hul
  have HSL := Lib.hid hsl
  have HKL := Lib.hid hkl
  clear hK hv hvn hvl hsl hkl
  by_cases h0 : salt = []
  · subst h0
    have hx0 : extract (Pu.HK.sha kt) secret [] = mac (Pu.HK.sha kt) (List.replicate (Pu.HK.size (Pu.HK.sha kt)) 0) secret := by unfold extract; rw [if_pos rfl]
    have hx := Lib.hid hx0
    clear hx0
    obtain rfl := hnil.2 rfl
    have eq1 : ∀ w, (binOp .eql 24 (.slice none 0 0) (.slice none 0 0)).run Try.prog w = .ok (.bool true) w := fun w => Lib.run_eql_slice_nil w 24 5 none 0 0 0 0 Try.underlying24
    have e1 := mSize (Pu.HK.sha kt)
    have e2 := cSize (Pu.HK.sha kt)
    clear hu hun hul hnil
    go_enter Try.func54, Try.ntmps54
    refine wp_seq_k (fun K0 k0 => ?_)
    have J0 := Lib.hid k0
    clear k0
    go_wp2
    refine J0.out _ _ (wp_seq_k (fun K1 k1 => ?_))
    have J1 := Lib.hid k1
    clear k1
    go_wp2_with (fail)
    refine (newD kt w HK.out).mono ?_
    rintro e W1 ⟨b, sb, rfl, h1⟩
    go_wp2_with (fail)
    refine (hSize (Pu.HK.sha kt) b sb [] W1 h1.out.1).mono ?_
    rintro e W2 ⟨rfl, rfl⟩
    obtain ⟨N, hN⟩ : ∃ N, N = Pu.HK.size (Pu.HK.sha kt) := ⟨_, rfl⟩
    rw [← hN]
    have hN32 : N ≤ 32 := by rw [hN]; exact Pu.HK.ok.size_le (show Pu.HK.ok (.sha kt) from trivial)
    rw [← hN] at hx
    have T1 : Hid (Tch [] w W1) := h1.out.2.1
    obtain ⟨W, hW⟩ : ∃ W, W = W1.alloc (.cells (List.replicate N (Value.int .u8 0)).toArray 5) := ⟨_, rfl⟩
    have hmk : (Instr.makeSlice 24 (.int .i64 (N : Int)) (.int .i64 (N : Int))).run Try.prog W1 = .ok (.slice (some ⟨W1.heap.size, 0, none⟩) N N) W := by
      rw [hW]; exact run_make_by N N (Nat.le_refl _) (by omega) W1
    have R : Hid (Rd W (.slice (some ⟨W1.heap.size, 0, none⟩) N N) (List.replicate N 0)) := by rw [hW]; exact rd_cells W1 (List.replicate N 0) _ N (by simp) (by simp; omega) (by simp [vb, ib])
    have TW : Hid (Tch [] w W) := by rw [hW]; exact T1.out.trans (Tch.alloc _ _)
    have LW : Hid (W1.heap.size < W.heap.size) := by rw [hW]; show W1.heap.size < (W1.alloc _).heap.size; rw [World.size_alloc]; omega
    clear hW h1 hN T1 e1 e2
    go_wp2
    refine J1.out _ _ ?_
    rw [hx.out]
    exact exTailD kt _ w W ⟨rfl, rfl⟩ secret (List.replicate N 0) v _ TW.out (HK.out.tch TW.out (by simp)) (HV.out.tchNil TW.out) HVN.out (fun b hb => Nat.lt_of_lt_of_le (HVL.out b hb) TW.out.size) R.out (.inr ⟨_, _, _, _, rfl⟩) (by intro b hb; simp only [Value.ownBlock, Option.some.injEq] at hb; subst hb; exact LW.out) HSL.out (by simp; omega) rfl rfl rfl rfl
  · have hx0 : extract (Pu.HK.sha kt) secret salt = mac (Pu.HK.sha kt) salt secret := by unfold extract; rw [if_neg h0]
    have hx := Lib.hid hx0
    clear hx0
    have hne : u ≠ .slice none 0 0 := fun e => h0 (hnil.1 e)
    obtain ⟨b0, o0, n0, c0, rfl⟩ : ∃ b o n c, u = .slice (some ⟨b, o, none⟩) n c := by
      rcases hun with h | h
      · exact absurd h hne
      · exact h
    have eq1 : ∀ w, (binOp .eql 24 (.slice (some ⟨b0, o0, none⟩) n0 c0) (.slice none 0 0)).run Try.prog w = .ok (.bool false) w := fun w => Lib.run_eql_slice_nil w 24 5 (some ⟨b0, o0, none⟩) n0 c0 0 0 Try.underlying24
    clear hu hun hul hnil hne
    go_enter Try.func54, Try.ntmps54
    refine wp_seq_k (fun K0 k0 => ?_)
    have J0 := Lib.hid k0
    clear k0
    go_wp2
    refine J0.out _ _ (wp_seq_k (fun K1 k1 => ?_))
    have J1 := Lib.hid k1
    clear k1
    go_wp2
    refine J1.out _ _ ?_
    rw [hx.out]
    exact exTailD kt _ w w ⟨rfl, rfl⟩ secret salt v _ (Tch.refl _ _) HK.out HV.out HVN.out HVL.out HU.out HUN.out HUL.out HSL.out HKL.out rfl rfl rfl rfl
set_option maxRecDepth 100000 in
theorem exTailO (kt : List UInt32) (k s bl : Int) (a : Act) (w0 w : World) (h : Frm 25 a) (secret key : By) (v u : Value) (hT : Tch [] w0 w) (hK : KIs w kt) (hv : Rd w v secret) (hvn : Nm v) (hvl : ∀ b, v.ownBlock = some b → b < w.heap.size)
    (hu : Rd w u key) (hun : Nm u) (hul : ∀ b, u.ownBlock = some b → b < w.heap.size) (hsl : secret.length ≤ 549755813888) (hkl : key.length ≤ 549755813888)
    (g0 : G a 0 = (.func (.func 51) #[.agg #[.int .i64 k, .int .i64 s, .int .i64 bl]] #[])) (g1 : G a 1 = v) (g2 : G a 2 = u) (g6 : G a 6 = .slice none 0 0) :
    (part (bodyOf Try.f55) [true, true]).wp Try.prog (bodyPost Try.prog Try.f55 (BYE w0 (mac (Pu.HK.own (szOf s bl) (blOf s bl)) key secret))) a w := by
  conv => arg 2; whnf
  rw [lit25 a h]
  simp only [g0, g1, g2, g6]
  have HT := Lib.hid hT
  have HK := Lib.hid hK
  have HV := Lib.hid hv
  have HVN := Lib.hid hvn
  have HVL := Lib.hid hvl
  have HU := Lib.hid hu
  have HUN := Lib.hid hun
  have HUL := Lib.hid hul
  have HSL := Lib.hid hsl
  have HKL := Lib.hid hkl
  clear h g0 g1 g2 g6 hT hK hv hvn hvl hu hun hul hsl hkl
  refine wp_seq_k (fun K0 k0 => ?_)
  have J0 := Lib.hid k0
  clear k0
  go_wp2_with (fail)
  refine (hmNewO k s bl key u w HK.out.lt HU.out HUN.out HUL.out (by have := HKL.out; omega)).mono ?_
  intro e W1 hn0
  obtain ⟨F, rfl, h1⟩ := kmNew hn0
  clear hn0
  have M1 := Lib.hid h1.out.1
  have T1 : Hid (Tch [] w W1) := h1.out.2.1
  have N1 : Hid (NewF w F) := h1.out.2.2
  clear h1
  go_wp2
  refine J0.out _ _ (wp_seq_k (fun K1 k1 => ?_))
  have J1 := Lib.hid k1
  clear k1
  go_wp2_with (fail)
  refine (kmMark (Pu.HK.own (szOf s bl) (blOf s bl)) F key [] W1 M1.out).mono ?_
  rintro e W2 ⟨rfl, h2⟩
  obtain ⟨F2, hF2⟩ : ∃ F2, F2 = { F with kdf := true } := ⟨_, rfl⟩
  have M2 : Hid (KM W2 (Pu.HK.own (szOf s bl) (blOf s bl)) F2 key []) := by rw [hF2]; exact h2.out.1
  have B1 := N1.out.blk M1.out
  have T2 : Hid (Tch [] w W2) := tchNew T1.out h2.out.2 (by intro b hb; rw [List.mem_singleton.1 hb]; exact B1.1)
  have N2 : Hid (NewF w F2) := by rw [hF2]; exact N1.out
  have em : F.m = F2.m := by rw [hF2]
  rw [em]
  clear h2 B1 hF2 em N1 M1 T1
  go_wp2
  refine J1.out _ _ (wp_seq_k (fun K2 k2 => ?_))
  have J2 := Lib.hid k2
  clear k2
  have B2 : Hid (w.heap.size ≤ F2.m ∧ w.heap.size ≤ F2.bo ∧ w.heap.size ≤ F2.so ∧ w.heap.size ≤ F2.bi ∧ w.heap.size ≤ F2.si) := N2.out.blk M2.out
  go_wp2_with (fail)
  refine (kmWrite (Pu.HK.own (szOf s bl) (blOf s bl)) F2 key [] secret v W2 M2.out (HV.out.tchNil T2.out) HVN.out (by
    intro b hb hm
    have := HVL.out b hb
    have := B2.out
    simp only [List.mem_cons, List.not_mem_nil, or_false] at hm
    omega) (by have := HSL.out; simpa using this)).mono ?_
  rintro e W3 ⟨rfl, h3⟩
  have M3 : Hid (KM W3 (Pu.HK.own (szOf s bl) (blOf s bl)) F2 key secret) := h3.out.1
  have T3 : Hid (Tch [] w W3) := tchNew T2.out h3.out.2 (by intro b hb; have := B2.out; simp only [List.mem_cons, List.not_mem_nil, or_false] at hb; omega)
  clear h3 M2 T2
  go_wp2
  refine J2.out _ _ (wp_seq_k (fun K3 k3 => ?_))
  have J3 := Lib.hid k3
  clear k3
  go_wp2_with (fail)
  refine (kmSum (Pu.HK.own (szOf s bl) (blOf s bl)) F2 key secret [] (.slice none 0 0) W3 M3.out (Own.nil _) (by intro b hb; cases hb) HSL.out (by simp)).mono ?_
  rintro e W4 ⟨v4, rfl, h4⟩
  go_wp2
  refine J3.out _ _ ?_
  go_wp2
  go_ret
  refine ⟨v4, rfl, h4.out.1, (HT.out.trans T3.out).new h4.out.2.2.1 ?_, ?_⟩
  · intro i hi
    right
    have := B2.out
    have hi' : i = F2.bo ∨ i = F2.so := by simpa [Value.ownBlock] using hi
    have := HT.out.size
    rcases hi' with rfl | rfl <;> omega
  · rcases h4.out.2.2.2.2 with h | ⟨g, h, hg⟩
    · exact .inl h
    · exact .inr ⟨g, h, Nat.le_trans (HT.out.trans T3.out).size hg⟩
set_option maxRecDepth 100000 in
/-- hkdf.Extract. -/
theorem kExtractO (kt : List UInt32) (k s bl : Int) (secret salt : By) (v u : Value) (w : World) (hK : KIs w kt) (hv : Rd w v secret) (hvn : Nm v) (hvl : ∀ b, v.ownBlock = some b → b < w.heap.size)
    (hu : Rd w u salt) (hun : Nm u) (hul : ∀ b, u.ownBlock = some b → b < w.heap.size) (hnil : u = .slice none 0 0 ↔ salt = []) (hsl : secret.length ≤ 549755813888) (hkl : salt.length ≤ 549755813888) :
    Calls Try.prog 55 #[(.func (.func 51) #[.agg #[.int .i64 k, .int .i64 s, .int .i64 bl]] #[]), v, u] w (BYE w (extract (Pu.HK.own (szOf s bl) (blOf s bl)) secret salt)) := by
  have HK := Lib.hid hK
  have HV := Lib.hid hv
  have HVN := Lib.hid hvn
  have HVL := Lib.hid hvl
  have HU := Lib.hid hu
  have HUN := Lib.hid hun
  have HUL := Lib.hid hul
  have HSL := Lib.hid hsl
  have HKL := Lib.hid hkl
  clear hK hv hvn hvl hsl hkl
  by_cases h0 : salt = []
  · subst h0
    have hx0 : extract (Pu.HK.own (szOf s bl) (blOf s bl)) secret [] = mac (Pu.HK.own (szOf s bl) (blOf s bl)) (List.replicate (Pu.HK.size (Pu.HK.own (szOf s bl) (blOf s bl))) 0) secret := by unfold extract; rw [if_pos rfl]
    have hx := Lib.hid hx0
    clear hx0
    obtain rfl := hnil.2 rfl
    have eq1 : ∀ w, (binOp .eql 24 (.slice none 0 0) (.slice none 0 0)).run Try.prog w = .ok (.bool true) w := fun w => Lib.run_eql_slice_nil w 24 5 none 0 0 0 0 Try.underlying24
    have e1 := mSize (Pu.HK.own (szOf s bl) (blOf s bl))
    have e2 := cSize (Pu.HK.own (szOf s bl) (blOf s bl))
    clear hu hun hul hnil
    go_enter Try.func55, Try.ntmps55
    refine wp_seq_k (fun K0 k0 => ?_)
    have J0 := Lib.hid k0
    clear k0
    go_wp2
    refine J0.out _ _ (wp_seq_k (fun K1 k1 => ?_))
    have J1 := Lib.hid k1
    clear k1
    go_wp2_with (fail)
    refine (newO k s bl w).mono ?_
    rintro e W1 ⟨b, sb, rfl, h1⟩
    go_wp2_with (fail)
    refine (hSize (Pu.HK.own (szOf s bl) (blOf s bl)) b sb [] W1 h1.out.1).mono ?_
    rintro e W2 ⟨rfl, rfl⟩
    obtain ⟨N, hN⟩ : ∃ N, N = Pu.HK.size (Pu.HK.own (szOf s bl) (blOf s bl)) := ⟨_, rfl⟩
    rw [← hN]
    have hN32 : N ≤ 32 := by rw [hN]; exact Pu.HK.ok.size_le (own_ok s bl)
    rw [← hN] at hx
    have T1 : Hid (Tch [] w W1) := h1.out.2.1
    obtain ⟨W, hW⟩ : ∃ W, W = W1.alloc (.cells (List.replicate N (Value.int .u8 0)).toArray 5) := ⟨_, rfl⟩
    have hmk : (Instr.makeSlice 24 (.int .i64 (N : Int)) (.int .i64 (N : Int))).run Try.prog W1 = .ok (.slice (some ⟨W1.heap.size, 0, none⟩) N N) W := by
      rw [hW]; exact run_make_by N N (Nat.le_refl _) (by omega) W1
    have R : Hid (Rd W (.slice (some ⟨W1.heap.size, 0, none⟩) N N) (List.replicate N 0)) := by rw [hW]; exact rd_cells W1 (List.replicate N 0) _ N (by simp) (by simp; omega) (by simp [vb, ib])
    have TW : Hid (Tch [] w W) := by rw [hW]; exact T1.out.trans (Tch.alloc _ _)
    have LW : Hid (W1.heap.size < W.heap.size) := by rw [hW]; show W1.heap.size < (W1.alloc _).heap.size; rw [World.size_alloc]; omega
    clear hW h1 hN T1 e1 e2
    go_wp2
    refine J1.out _ _ ?_
    rw [hx.out]
    exact exTailO kt k s bl _ w W ⟨rfl, rfl⟩ secret (List.replicate N 0) v _ TW.out (HK.out.tch TW.out (by simp)) (HV.out.tchNil TW.out) HVN.out (fun b hb => Nat.lt_of_lt_of_le (HVL.out b hb) TW.out.size) R.out (.inr ⟨_, _, _, _, rfl⟩) (by intro b hb; simp only [Value.ownBlock, Option.some.injEq] at hb; subst hb; exact LW.out) HSL.out (by simp; omega) rfl rfl rfl rfl
  · have hx0 : extract (Pu.HK.own (szOf s bl) (blOf s bl)) secret salt = mac (Pu.HK.own (szOf s bl) (blOf s bl)) salt secret := by unfold extract; rw [if_neg h0]
    have hx := Lib.hid hx0
    clear hx0
    have hne : u ≠ .slice none 0 0 := fun e => h0 (hnil.1 e)
    obtain ⟨b0, o0, n0, c0, rfl⟩ : ∃ b o n c, u = .slice (some ⟨b, o, none⟩) n c := by
      rcases hun with h | h
      · exact absurd h hne
      · exact h
    have eq1 : ∀ w, (binOp .eql 24 (.slice (some ⟨b0, o0, none⟩) n0 c0) (.slice none 0 0)).run Try.prog w = .ok (.bool false) w := fun w => Lib.run_eql_slice_nil w 24 5 (some ⟨b0, o0, none⟩) n0 c0 0 0 Try.underlying24
    clear hu hun hul hnil hne
    go_enter Try.func55, Try.ntmps55
    refine wp_seq_k (fun K0 k0 => ?_)
    have J0 := Lib.hid k0
    clear k0
    go_wp2
    refine J0.out _ _ (wp_seq_k (fun K1 k1 => ?_))
    have J1 := Lib.hid k1
    clear k1
    go_wp2
    refine J1.out _ _ ?_
    rw [hx.out]
    exact exTailO kt k s bl _ w w ⟨rfl, rfl⟩ secret salt v _ (Tch.refl _ _) HK.out HV.out HVN.out HVL.out HU.out HUN.out HUL.out HSL.out HKL.out rfl rfl rfl rfl
set_option maxHeartbeats 1000000 in
set_option maxRecDepth 100000 in
/-- impl.Extract. -/
theorem iExtract (kt : List UInt32) (k s bl : Int) (secret salt : By) (v u : Value) (w : World) (hK : KIs w kt) (hv : Rd w v secret) (hu : Rd w u salt) (hsl : secret.length ≤ 549755813888) (hkl : salt.length ≤ 549755813888) :
    Calls Try.prog 32 #[.agg #[.int .i64 k, .int .i64 s, .int .i64 bl], v, u] w (BYE w (extract (kindOf kt k s bl) secret salt)) := by
  have HV := Lib.hid hv
  have HU := Lib.hid hu
  have HSL := Lib.hid hsl
  have HKL := Lib.hid hkl
  have HK := Lib.hid hK
  clear hv hu hsl hkl hK
  go_enter Try.func32, Try.ntmps32
  refine wp_seq_k (fun K0 k0 => ?_)
  have J0 := Lib.hid k0
  clear k0
  go_wp2
  generalize hW1 : World.alloc _ _ = W1
  have R1 : Row W1 w.heap.size 23 [.int .i64 k, .int .i64 s, .int .i64 bl] := by rw [← hW1]; exact Row.new w 23 _
  have T1 : Hid (Tch [] w W1) := by rw [← hW1]; exact Tch.alloc _ _
  have c0 : W1.cell? ⟨w.heap.size, 0, none⟩ = some (.int .i64 k) := by rw [R1.cell]; rfl
  have c1 : W1.cell? ⟨w.heap.size, 1, none⟩ = some (.int .i64 s) := by rw [R1.cell]; rfl
  have c2 : W1.cell? ⟨w.heap.size, 2, none⟩ = some (.int .i64 bl) := by rw [R1.cell]; rfl
  have HR1 := Lib.hid R1
  clear hW1 R1
  obtain ⟨c, hc⟩ : ∃ c, c = w.heap.size := ⟨_, rfl⟩
  rw [← hc] at c0 c1 c2 HR1 ⊢
  clear hc
  by_cases hk : k = 1
  · subst hk
    refine J0.out _ _ (wp_seq_k (fun K1 k1 => ?_))
    have J1 := Lib.hid k1
    clear k1
    go_wp2_with (fail)
    refine (iCopied v secret W1 (HV.out.tchNil T1.out) (by have := HSL.out; omega)).mono ?_
    rintro e W2 ⟨v2, rfl, h2⟩
    have T2 : Hid (Tch [] w W2) := T1.out.trans h2.out.1.tchNil
    go_wp2_with (fail)
    refine (iCopied u salt W2 (HU.out.tchNil T2.out) (by have := HKL.out; omega)).mono ?_
    rintro e W3 ⟨u3, rfl, h3⟩
    have T3 : Hid (Tch [] w W3) := T2.out.trans h3.out.1.tchNil
    have V3 := Lib.hid (h2.out.1.1.tch h3.out.1.tchNil (by intro b _; simp))
    go_wp2_with (fail)
    refine (kExtractD kt secret salt v2 u3 W3 (HK.out.tch T3.out (by simp)) V3.out.rd V3.out.nm V3.out.lt h3.out.1.1.rd h3.out.1.1.nm h3.out.1.1.lt h3.out.2 HSL.out HKL.out).mono ?_
    rintro e W4 ⟨v4, rfl, h4⟩
    go_wp2
    go_ret
    rw [kind_sha]
    exact BYE.earlier ⟨v4, rfl, h4⟩ T3.out
  · have hkb : (k == 1) = false := by simpa using hk
    refine J0.out _ _ (wp_seq_k (fun K1 k1 => ?_))
    have J1 := Lib.hid k1
    clear k1
    have hmf : ∀ (fn : Fn) (first cap : Array Value) (w : World), (Instr.makeFunc fn first cap).run Try.prog w = .ok (.func fn first cap) w := fun _ _ _ _ => rfl
    have KA : Hid (∀ w', Tch [] W1 w' → (w'.cell? ⟨c, 0, none⟩ = some (.int .i64 k) ∧ w'.cell? ⟨c, 1, none⟩ = some (.int .i64 s) ∧ w'.cell? ⟨c, 2, none⟩ = some (.int .i64 bl))) := fun w' h => ⟨h.cell c0 (by simp), h.cell c1 (by simp), h.cell c2 (by simp)⟩
    go_wp2
    refine J1.out _ _ (wp_seq_k (fun K2 k2 => ?_))
    have J2 := Lib.hid k2
    clear k2
    go_region_held3 (fun w' => w'.cell? ⟨c, 0, none⟩ = some (.int .i64 k) ∧ w'.cell? ⟨c, 1, none⟩ = some (.int .i64 s) ∧ w'.cell? ⟨c, 2, none⟩ = some (.int .i64 bl)) (exact KA.out _ (by first | exact Tch.drewN W1 1 | exact t2 | exact t3 | exact t4)) (first | (go_at_call 45; refine (iCopied v secret W1.drew (HV.out.tchNil (T1.out.trans (Tch.drewN W1 1))) (by have := HSL.out; omega)).mono ?_; rintro e W2 ⟨v2, rfl, h2⟩; have t2 : Tch [] W1 W2 := (Tch.drewN W1 1).trans h2.out.1.tchNil) | (go_at_call 45; refine (iCopied u salt W2 (HU.out.tchNil (T1.out.trans t2)) (by have := HKL.out; omega)).mono ?_; rintro e W3 ⟨u3, rfl, h3⟩; have t3 : Tch [] W1 W3 := t2.trans h3.out.1.tchNil) | (go_at_call 55; refine (kExtractO kt k s bl secret salt v2 u3 W3 (HK.out.tch (T1.out.trans t3) (by simp)) (h2.out.1.1.tch h3.out.1.tchNil (by intro b _; simp)).rd h2.out.1.1.nm (fun b hb => Nat.lt_of_lt_of_le (h2.out.1.1.lt b hb) h3.out.1.tchNil.size) h3.out.1.1.rd h3.out.1.1.nm h3.out.1.1.lt h3.out.2 HSL.out HKL.out).mono ?_; rintro e W4 ⟨v4, rfl, h4⟩; have t4 : Tch [] W1 W4 := t3.trans h4.out.2.1))
    all_goals (go_wp2; refine J2.out _ _ ?_; go_wp2; go_ret; rw [bad_kind kt k s bl hk]; exact BYE.earlier ⟨v4, rfl, h4⟩ (T1.out.trans t3))
end Go.Proofs.Ytgomodhhomekpaa

/-
  FnIsMac: its walk.
-/
namespace Go.Proofs.Ytgomodhhomekpaa
open Go.RowKit Pu Ar
set_option maxHeartbeats 2000000 in
set_option maxRecDepth 100000 in
theorem fnIsMac (kt : List UInt32) (k s bl : Int) (secret : By) (salt : By) (secretV : Value) (saltV : Value) (w : World) (hK : KIs w kt) (hsecret : Rd w secretV secret ∧ Nm secretV) (hsalt : Rd w saltV salt ∧ Nm saltV) :
    Calls Try.prog 16 #[.agg #[.int .i64 k, .int .i64 s, .int .i64 bl], secretV, saltV] w fun e w' => e = .returned (.bool true) ∧ Hid (Tch [] w w') := by
  obtain ⟨hsecret, hsecretN⟩ := hsecret
  obtain ⟨secretp, secretc, rfl⟩ := rd_ex hsecret
  have Rsecret := Lib.hid hsecret
  have Nsecret := Lib.hid hsecretN
  clear hsecret hsecretN
  obtain ⟨hsalt, hsaltN⟩ := hsalt
  obtain ⟨saltp, saltc, rfl⟩ := rd_ex hsalt
  have Rsalt := Lib.hid hsalt
  have Nsalt := Lib.hid hsaltN
  clear hsalt hsaltN
  have HK := Lib.hid hK
  clear hK
  go_enter Try.func16, Try.ntmps16
  refine wp_seq_k (fun K0 k0 => ?_)
  have J0 := Lib.hid k0
  clear k0
  go_wp2
  generalize hW1 : World.alloc _ _ = W1
  have R1 : Row W1 w.heap.size 23 [.int .i64 k, .int .i64 s, .int .i64 bl] := by rw [← hW1]; exact Row.new w 23 _
  have T1 : Hid (Tch [] w W1) := by rw [← hW1]; exact Tch.alloc _ _
  have HR1 := Lib.hid R1
  clear hW1 R1
  obtain ⟨c, hc⟩ : ∃ c, c = w.heap.size := ⟨_, rfl⟩
  rw [← hc] at HR1 ⊢
  clear hc
  refine J0.out _ _ (wp_seq_k (fun K1 k1 => ?_))
  have J1 := Lib.hid k1
  clear k1
  by_cases zsecret : 2147483647 < (secret.length : Int)
  · go_wp2
    go_ret
    exact ⟨rfl, T1.out⟩
  by_cases zsalt : 2147483647 < (salt.length : Int)
  · go_wp2
    go_ret
    exact ⟨rfl, T1.out⟩
  go_wp2
  refine J1.out _ _ (wp_seq_k (fun K2 k2 => ?_))
  have J2 := Lib.hid k2
  clear k2
  go_wp2_with (fail)
  refine (lLong [secret, salt] _ _ (prd_two (Rsecret.out.tchNil T1.out) (Rsalt.out.tchNil T1.out)) (by
    intro p hp
    simp only [List.mem_cons, List.not_mem_nil, or_false] at hp
    rcases hp with rfl | rfl <;> omega)).mono ?_
  rintro e W2 ⟨rfl, hW2⟩
  have R2 : Hid (Row W2 c 23 [.int .i64 k, .int .i64 s, .int .i64 bl]) := by rw [← hW2]; exact HR1.out.alloc _
  have T2 : Hid (Tch [] w W2) := by rw [← hW2]; exact T1.out.trans (Tch.alloc _ _)
  clear hW2 HR1 T1
  obtain ⟨t, ht⟩ : ∃ t, t = decide (1048576 < [secret, salt].flatten.length) := ⟨_, rfl⟩
  rw [← ht]
  have HTL := Lib.hid ht
  clear ht
  have c0 : W2.cell? ⟨c, 0, none⟩ = some (.int .i64 k) := by rw [R2.out.cell]; rfl
  have c1 : W2.cell? ⟨c, 1, none⟩ = some (.int .i64 s) := by rw [R2.out.cell]; rfl
  have c2 : W2.cell? ⟨c, 2, none⟩ = some (.int .i64 bl) := by rw [R2.out.cell]; rfl
  cases t with
  | true =>
    go_wp2
    go_ret
    exact ⟨rfl, T2.out⟩
  | false =>
    have hlen : [secret, salt].flatten.length ≤ 1048576 := by
      have := HTL.out
      have := of_decide_eq_false this.symm
      omega
    have HLEN : Hid (secret.length + salt.length ≤ 1048576) := by simp only [List.flatten_cons, List.flatten_nil, List.append_nil, List.length_append] at hlen; show _ ≤ _; omega
    clear hlen HTL
    go_wp2
    refine J2.out _ _ (wp_seq_k (fun K3 j3 => ?_))
    have J3 := Lib.hid j3
    clear j3
    go_wp2_with (fail)
    refine (iExtract kt k s bl secret salt _ _ W2 (HK.out.tch T2.out (by simp)) (Rsecret.out.tchNil T2.out) (Rsalt.out.tchNil T2.out) (by have := HLEN.out; omega) (by have := HLEN.out; omega)).mono ?_
    rintro e W4 ⟨got, rfl, h4⟩
    have T4 : Hid (Tch [] w W4) := T2.out.trans h4.out.tchNil
    have R4 : Hid (Row W4 c 23 [.int .i64 k, .int .i64 s, .int .i64 bl]) := R2.out.tch h4.out.tchNil (by simp)
    have GD : Hid (Rd W4 got (mac (kindOf kt k s bl) salt secret)) := by have := h4.out.1.rd; rwa [extract_isMac (kindOf_ok kt k s bl)] at this
    clear h4 R2 T2 c0 c1 c2
    have glen : (mac (kindOf kt k s bl) salt secret).length = szK k s bl := by rw [mac_length, kind_size]
    obtain ⟨gp, gc, rfl⟩ := rd_ex GD.out
    rw [glen] at GD ⊢
    obtain ⟨Z, hZ⟩ : ∃ Z, Z = szK k s bl := ⟨_, rfl⟩
    rw [← hZ] at GD ⊢
    have HZ := Lib.hid hZ
    clear hZ glen
    have c0 : W4.cell? ⟨c, 0, none⟩ = some (.int .i64 k) := by rw [R4.out.cell]; rfl
    have c1 : W4.cell? ⟨c, 1, none⟩ = some (.int .i64 s) := by rw [R4.out.cell]; rfl
    have c2 : W4.cell? ⟨c, 2, none⟩ = some (.int .i64 bl) := by rw [R4.out.cell]; rfl
    go_wp2
    refine J3.out _ _ (wp_seq_k (fun K4 j4 => ?_))
    have J4 := Lib.hid j4
    clear j4
    have KA : Hid (∀ w', Tch [] W4 w' → (w'.cell? ⟨c, 0, none⟩ = some (.int .i64 k) ∧ w'.cell? ⟨c, 1, none⟩ = some (.int .i64 s) ∧ w'.cell? ⟨c, 2, none⟩ = some (.int .i64 bl))) := fun w' h => ⟨h.cell c0 (by simp), h.cell c1 (by simp), h.cell c2 (by simp)⟩
    go_wp2_with (fail)
    refine (sSize k s bl _).mono ?_
    rintro e W5 ⟨rfl, h5⟩
    rw [← HZ.out]
    have T5 : Hid (Tch [] w W5) := T4.out.trans h5.out
    obtain ⟨c0, c1, c2⟩ := KA.out W5 h5.out
    have GD5 := Lib.hid (GD.out.tchNil h5.out)
    clear h5 R4 T4 GD
    go_wp2_with (fail)
    refine (iMac kt k s bl salt [secret] _ _ _ (HK.out.tch (T5.out.trans (Tch.alloc _ _)) (by simp)) (Rsalt.out.tchNil (T5.out.trans (Tch.alloc _ _))) (by have := HLEN.out; omega) (prd_one (Rsecret.out.tchNil T5.out)) (by have := HLEN.out; simp; omega)).mono ?_
    rintro e W6 ⟨got2, rfl, h6⟩
    have T6 : Hid (Tch [] w W6) := T5.out.trans ((Tch.alloc _ _).trans h6.out.tchNil)
    have GD6 := Lib.hid (GD5.out.tchNil ((Tch.alloc _ _).trans h6.out.tchNil))
    have GE6 : Hid (Rd W6 got2 (mac (kindOf kt k s bl) salt secret)) := by have := h6.out.1.rd; rwa [show [secret].flatten = secret by simp] at this
    clear h6 T5 GD5 c0 c1 c2
    go_wp2_with (fail)
    refine (lSame _ _ _ _ W6 GD6.out GE6.out).mono ?_
    rintro e W7 ⟨rfl, rfl⟩
    rw [decide_eq_true rfl]
    go_wp2
    refine J4.out _ _ ?_
    go_wp2
    go_ret
    exact ⟨rfl, T6.out⟩
end Go.Proofs.Ytgomodhhomekpaa
