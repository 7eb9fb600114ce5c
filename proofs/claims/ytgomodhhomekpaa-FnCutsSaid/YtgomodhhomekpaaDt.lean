/-
  Digest.Sum: it appends the hash of what has been taken in.
-/
import Derived.Test.YtgomodhhomekpaaDs
namespace Go.Proofs.Ytgomodhhomekpaa
open Go.RowKit Pu Ar
theorem sha_length (kt : List UInt32) (l : By) : (sha kt l).length = 32 := S8.bytes_length _
theorem digCells_one (s : S8) (x : By) (nx ln : Nat) : (digCells s x nx ln).toArray.all (·.oneCell') = true := by
  simp [digCells, vb, vw, Value.oneCell']
theorem Row.setRow {w : World} {b : Nat} {t : TypeId} {cs : List Value} (h : Row w b t cs) (ds : List Value) : Row (w.setRow b ds.toArray) b t ds := by
  unfold Row at *
  rw [setRow_heap w b _ _ t _ h]
theorem Row.setRowOther {w : World} {b : Nat} {t : TypeId} {cs : List Value} (h : Row w b t cs) (g : Nat) (ds : Array Value) (hn : b ≠ g) : Row (w.setRow g ds) b t cs :=
  h.tch (Tch.setRow (S := [g]) w g ds (by simp)) (by simpa using hn)
/-- What Sum leaves of the slice it has been given: v' is a row of the call's own and holds l. -/
def Grew (w w' : World) (v v' : Value) (l : By) : Prop :=
  Own w' v' l ∧ Tch v.ownBlock.toList w w' ∧ (v'.ownBlock = v.ownBlock ∨ ∃ g, v'.ownBlock = some g ∧ w.heap.size ≤ g)
set_option maxHeartbeats 400000 in
set_option maxRecDepth 100000 in
theorem digSum (kt : List UInt32) (b : Nat) (l xs : By) (v : Value) (w : World) (hK : KIs w kt) (hD : DigIs w b kt l) (hl : l.length < 2305843009213693000) (hv : Own w v xs) (hsz : xs.length + 32 ≤ 140737488355328) :
    Calls Try.prog 98 #[.pointer (some ⟨b, 0, none⟩), v] w fun e w' => ∃ v', e = .returned v' ∧ Hid (Grew w w' v v' (xs ++ sha kt l)) := by
  have hb := hD.2.choose_spec.1.row.lt
  have HK := Lib.hid hK
  have HL := Lib.hid hl
  have HV := Lib.hid hv
  have HS := Lib.hid hsz
  obtain ⟨hl0, x, hd, hx⟩ := hD
  have HX := Lib.hid hx
  have HL0 := Lib.hid hl0
  have HB := Lib.hid hb
  obtain ⟨D, hDD⟩ : ∃ D, D = digCells (blocks kt init l) x (l.length % 64) l.length := ⟨_, rfl⟩
  have hrow : Row w b 104 D := by rw [hDD]; exact hd.row
  have hlen : D.length = 75 := by rw [hDD, digCells_length, hd.len]
  have hone : D.toArray.all (·.oneCell') = true := by rw [hDD]; exact digCells_one _ _ _ _
  have hnot : (Op.unary .not (.bool false)) = pure (.bool true) := rfl
  have HR := Lib.hid hrow
  have HX64 := Lib.hid hd.len
  have HDD := Lib.hid hDD
  have HLEN := Lib.hid hlen
  have HONE := Lib.hid hone
  clear hK hl hv hsz hx hl0 hb hrow hd hDD hlen hone
  go_enter Try.func98, Try.ntmps98
  refine wp_seq_k (fun K0 h0 => ?_)
  have H0 := Lib.hid h0
  clear h0
  go_wp2
  refine H0.out _ _ (wp_seq_k (fun K1 h1 => ?_))
  have H1 := Lib.hid h1
  clear h1
  obtain ⟨Z, hZ⟩ : ∃ Z : List Value, Z = digCells ⟨0, 0, 0, 0, 0, 0, 0, 0⟩ (List.replicate 64 0) 0 0 := ⟨_, rfl⟩
  have hz : ∀ w, (zeroValue 104).run Try.prog w = .ok (.agg Z.toArray) w := fun w => by rw [hZ]; kernel_rfl
  have HZL : Hid (Z.length = 75) := by rw [hZ, digCells_length]; simp [Hid]
  clear hZ
  go_wp2_with (first | (refine wpList_load_row rfl 104 _ rfl b rfl 104 D.toArray (0, 0) _ HR.out Try.underlying104 rfl (by rw [List.size_toArray, HLEN.out]; kernel_rfl) ?_) | (refine wpList_store_row rfl 104 (.tmp 5) (.tmp 9) rfl w.heap.size D.toArray rfl rfl 104 Z.toArray (Row.new w 104 Z) (by rw [List.size_toArray, HLEN.out]; kernel_rfl) (by rw [List.size_toArray, List.size_toArray, HLEN.out, HZL.out]) HONE.out ?_))
  generalize hW2 : World.setRow _ _ _ = W2
  have R2 : Hid (Row W2 w.heap.size 104 D) := by rw [← hW2]; exact (Row.new w 104 Z).setRow D
  have T2 : Hid (Tch [] w W2) := by rw [← hW2]; exact (Tch.alloc w _).new (Tch.setRow (S := [w.heap.size]) _ _ _ (by simp)) (by intro i hi; right; rw [List.mem_singleton.1 hi]; exact Nat.le_refl _)
  have S2 : Hid (w.heap.size < W2.heap.size) := by rw [← hW2]; simp [Hid]
  clear hW2 hz HONE HZL
  have D2 : DigIs W2 w.heap.size kt l := ⟨HL0.out, x, ⟨HDD.out ▸ R2.out, HX64.out⟩, HX.out⟩
  have HC := Lib.hid (checkSum kt w.heap.size l W2 (HK.out.tch T2.out (by simp)) D2 HL.out)
  clear D2
  obtain ⟨c, hc⟩ : ∃ c, c = w.heap.size := ⟨_, rfl⟩
  rw [← hc] at HC ⊢
  have Hc := Lib.hid hc
  clear hc
  refine H1.out _ _ (wp_seq_k (fun K2 h2 => ?_))
  have H2 := Lib.hid h2
  clear h2
  go_wp2_with (fail)
  refine HC.out.mono ?_
  rintro e W3 ⟨rfl, h3⟩
  obtain ⟨t3, c74⟩ := h3.out
  have T3 : Hid (Tch [] w W3) := T2.out.new t3 (by intro i hi; right; rw [List.mem_singleton.1 hi, Hc.out]; exact Nat.le_refl _)
  have F3 := Lib.hid t3
  clear h3 t3
  obtain ⟨S, hS⟩ : ∃ S, S = (sha kt l).map vb := ⟨_, rfl⟩
  have HSL : Hid (S.length = 32) := by rw [hS, List.length_map, sha_length]; rfl
  have HSone : Hid (S.toArray.all (·.oneCell') = true) := by rw [hS]; simp [Hid, vb, Value.oneCell']
  rw [← hS]
  have HSS := Lib.hid hS
  clear hS
  have hz32 : ∀ w, (zeroValue 136).run Try.prog w = .ok (.agg (List.replicate 32 (Value.int .u8 0)).toArray) w := by
    intro w; kernel_rfl
  go_wp2_with (first | (refine wpList_store_row rfl 136 (.tmp 6) (.tmp 10) rfl W3.heap.size S.toArray rfl rfl 136 (List.replicate 32 (Value.int .u8 0)).toArray (Row.new W3 136 _) (by rw [List.size_toArray, HSL.out]; kernel_rfl) (by rw [List.size_toArray, List.size_toArray, HSL.out, List.length_replicate]) HSone.out ?_))
  generalize hW4 : World.setRow _ _ _ = W4
  have R4 : Hid (Row W4 W3.heap.size 136 S) := by rw [← hW4]; exact (Row.new W3 136 _).setRow S
  have T4 : Hid (Tch [] W3 W4) := by rw [← hW4]; exact (Tch.alloc W3 _).new (Tch.setRow (S := [W3.heap.size]) _ _ _ (by simp)) (by intro i hi; right; rw [List.mem_singleton.1 hi]; exact Nat.le_refl _)
  have c74' : W4.cell? ⟨c, 74, none⟩ = some (.bool false) := T4.out.cell c74 (by simp)
  clear hW4 hz32 c74 HSone
  obtain ⟨r, hr⟩ : ∃ r, r = W3.heap.size := ⟨_, rfl⟩
  rw [← hr] at R4 ⊢
  have Hr := Lib.hid hr
  clear hr
  refine H2.out _ _ (wp_seq_k (fun K3 h3 => ?_))
  have H3 := Lib.hid h3
  clear h3 HC
  go_wp2
  refine H3.out _ _ (wp_seq_k (fun K4 h4 => ?_))
  have H4 := Lib.hid h4
  clear h4
  have T : Tch [] w W4 := T3.out.trans T4.out
  have V4 : Own W4 v xs := HV.out.tch T (by intro i _; simp)
  have rd4 : Rd W4 (.slice (some ⟨r, 0, none⟩) 32 32) (sha kt l) := by
    refine ⟨some ⟨r, 0, none⟩, 32, by rw [sha_length], by rw [sha_length]; omega, by unfold maxLen; omega, .inr ⟨r, 0, rfl, fun i y hy => ?_⟩⟩
    rw [R4.out.cell, HSS.out, Nat.zero_add, List.getElem?_map, hy]; rfl
  have HT := Lib.hid T
  clear T
  go_wp2_with (refine wpList_append_by rfl _ _ rfl v _ xs (sha kt l) rfl rfl V4 rd4 (by rw [sha_length]; exact HS.out) ?_)
  intro v' w' h5
  go_wp2
  refine H4.out _ _ ?_
  go_wp2
  go_ret
  obtain ⟨o1, o2, _, o4⟩ := h5.out
  refine ⟨_, rfl, o1, (HT.out.mono (by simp)).trans o2, ?_⟩
  rcases o4 with h | ⟨g, h, hg⟩
  · exact .inl h
  · exact .inr ⟨g, h, Nat.le_trans HT.out.size hg⟩
end Go.Proofs.Ytgomodhhomekpaa
