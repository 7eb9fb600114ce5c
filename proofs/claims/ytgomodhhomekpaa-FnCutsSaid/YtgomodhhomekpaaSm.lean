/-
  laws.same: two slices of bytes, held against each other as texts.
-/
import Derived.Test.YtgomodhhomekpaaLg
import Derived.Laws.BytesString
namespace Go.Proofs.Ytgomodhhomekpaa
open Go.RowKit Pu Ar
/-- The text of the bytes. -/
def strOf (l : By) : ByteArray := (l.map (fun x => ib x)).foldl (fun r n => r.push (UInt8.ofNat n.toNat)) ByteArray.empty
theorem strOf_list (l : By) : (strOf l).data.toList = l := by
  have h : ∀ (l : By) (r : ByteArray), ((l.map (fun x => ib x)).foldl (fun r n => r.push (UInt8.ofNat n.toNat)) r).data.toList = r.data.toList ++ l := by
    intro l
    induction l with
    | nil => intro r; simp
    | cons x l ih =>
      intro r
      have e : UInt8.ofNat (ib x).toNat = x := by simp [ib]
      simp only [List.map_cons, List.foldl_cons]
      rw [ih]
      simp [ByteArray.push, e]
  have := h l ByteArray.empty
  simpa [strOf] using this
theorem run_string_of {w : World} {v : Value} {l : By} (h : Rd w v l) : (convert 24 9 v).run Try.prog w = .ok (.string (strOf l)) w := by
  obtain ⟨p, cap, rfl, hc, hm, hr⟩ := h
  rw [run_convert_bytes_string w 24 9 5 p l.length cap Try.underlying24 Try.underlying5 Try.underlying9]
  rcases hr with rfl | ⟨b, o, rfl, hr⟩
  · cases p with
    | none => simp [Conv.bytesToString, strOf, Sem.run_pure]
    | some a => exact run_bytesToString w a 0 cap [] (by simp [loadCells, loadCellsFrom, Sem.run_pure])
  · refine run_bytesToString w _ l.length cap (l.map (fun x => ib x)) ?_
    have := run_loadCells_list (P := Try.prog) w ⟨b, o, none⟩ (l.map vb) (fun j u hu => by
      rw [List.getElem?_map] at hu
      cases hx : l[j]? with
      | none => simp [hx] at hu
      | some x => simp [hx] at hu; subst hu; rw [add_lit']; exact hr j x hx)
    rw [List.length_map] at this
    rw [this, List.map_map]; rfl
set_option maxRecDepth 100000 in
/-- laws.same. -/
theorem lSame (u v : Value) (x y : By) (w : World) (hu : Rd w u x) (hv : Rd w v y) :
    Calls Try.prog 28 #[u, v] w fun e w' => e = .returned (.bool (decide (x = y))) ∧ w = w' := by
  have c1 := run_string_of hu
  have c2 := run_string_of hv
  clear hu hv
  go_enter Try.func28, Try.ntmps28
  go_wp2
  go_ret
  refine ⟨?_, rfl⟩
  have e : ((strOf x).toList == (strOf y).toList) = decide (x = y) := by
    rw [ByteArray.toList_eq, ByteArray.toList_eq, strOf_list, strOf_list]
    by_cases h : x = y
    · subst h; simp
    · rw [decide_eq_false h]; simpa using h
  rw [← e]; rfl
end Go.Proofs.Ytgomodhhomekpaa
