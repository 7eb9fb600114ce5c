/-
  Either hash behind the interface: what it holds, and its methods.
-/
import Derived.Test.YtgomodhhomekpaaHc
namespace Go.Proofs.Ytgomodhhomekpaa
open Go.RowKit Pu Ar
/-- The hash of make hk at block b has taken the bytes l in. -/
def HIs (w : World) (hk : Pu.HK) (b sb : Nat) (l : By) : Prop :=
  match hk with
  | .sha kt => KIs w kt ∧ DigIs w b kt l ∧ sb = b
  | .own s bl => OwnAt w b sb s bl l.length (ownState s l)
def hT : Pu.HK → TypeId
  | .sha _ => 74
  | .own _ _ => 77
def fW : Pu.HK → Nat
  | .sha _ => 100
  | .own _ _ => 117
def fS : Pu.HK → Nat
  | .sha _ => 98
  | .own _ _ => 116
def fR : Pu.HK → Nat
  | .sha _ => 66
  | .own _ _ => 67
def fB : Pu.HK → Nat
  | .sha _ => 95
  | .own _ _ => 114
def fZ : Pu.HK → Nat
  | .sha _ => 97
  | .own _ _ => 115
theorem mWrite (hk : Pu.HK) (a : Addr) (w : World) : (method 251 (hT hk) (.pointer (some a)) "Write").run Try.prog w = .ok (fW hk, .pointer (some a)) w := by cases hk <;> kernel_rfl
theorem cWrite (hk : Pu.HK) (args : Array Value) (w : World) : (callFunc (fW hk) args).run Try.prog w = .ok (.enter (fW hk) args) w := by cases hk <;> kernel_rfl
theorem nWrite (hk : Pu.HK) (a : Addr) (w : World) : (nilAhead 251 (hT hk) (.pointer (some a)) "Write").run Try.prog w = .ok (some false) w := by cases hk <;> kernel_rfl
theorem mSum (hk : Pu.HK) (a : Addr) (w : World) : (method 251 (hT hk) (.pointer (some a)) "Sum").run Try.prog w = .ok (fS hk, .pointer (some a)) w := by cases hk <;> kernel_rfl
theorem cSum (hk : Pu.HK) (args : Array Value) (w : World) : (callFunc (fS hk) args).run Try.prog w = .ok (.enter (fS hk) args) w := by cases hk <;> kernel_rfl
theorem nSum (hk : Pu.HK) (a : Addr) (w : World) : (nilAhead 251 (hT hk) (.pointer (some a)) "Sum").run Try.prog w = .ok (some false) w := by cases hk <;> kernel_rfl
theorem mReset (hk : Pu.HK) (a : Addr) (w : World) : (method 251 (hT hk) (.pointer (some a)) "Reset").run Try.prog w = .ok (fR hk, .pointer (some a)) w := by cases hk <;> kernel_rfl
theorem cReset (hk : Pu.HK) (args : Array Value) (w : World) : (callFunc (fR hk) args).run Try.prog w = .ok (.enter (fR hk) args) w := by cases hk <;> kernel_rfl
theorem nReset (hk : Pu.HK) (a : Addr) (w : World) : (nilAhead 251 (hT hk) (.pointer (some a)) "Reset").run Try.prog w = .ok (some false) w := by cases hk <;> kernel_rfl
theorem mBlockSize (hk : Pu.HK) (a : Addr) (w : World) : (method 251 (hT hk) (.pointer (some a)) "BlockSize").run Try.prog w = .ok (fB hk, .pointer (some a)) w := by cases hk <;> kernel_rfl
theorem cBlockSize (hk : Pu.HK) (args : Array Value) (w : World) : (callFunc (fB hk) args).run Try.prog w = .ok (.enter (fB hk) args) w := by cases hk <;> kernel_rfl
theorem nBlockSize (hk : Pu.HK) (a : Addr) (w : World) : (nilAhead 251 (hT hk) (.pointer (some a)) "BlockSize").run Try.prog w = .ok (some false) w := by cases hk <;> kernel_rfl
theorem mSize (hk : Pu.HK) (a : Addr) (w : World) : (method 251 (hT hk) (.pointer (some a)) "Size").run Try.prog w = .ok (fZ hk, .pointer (some a)) w := by cases hk <;> kernel_rfl
theorem cSize (hk : Pu.HK) (args : Array Value) (w : World) : (callFunc (fZ hk) args).run Try.prog w = .ok (.enter (fZ hk) args) w := by cases hk <;> kernel_rfl
theorem nSize (hk : Pu.HK) (a : Addr) (w : World) : (nilAhead 251 (hT hk) (.pointer (some a)) "Size").run Try.prog w = .ok (some false) w := by cases hk <;> kernel_rfl
theorem HIs.tch {S : List Nat} {w w' : World} {hk : Pu.HK} {b sb : Nat} {l : By} (h : HIs w hk b sb l) (k : Tch S w w') (hK : 0 ∉ S) (hb : b ∉ S) (hs : sb ∉ S) : HIs w' hk b sb l := by
  cases hk with
  | sha kt => obtain ⟨h1, h2, h3⟩ := h; exact ⟨h1.tch k hK, h2.tch k hb, h3⟩
  | own s bl => exact OwnAt.tch h k hb hs
theorem DigIs.lt {w : World} {b : Nat} {kt : List UInt32} {l : By} (h : DigIs w b kt l) : b < w.heap.size := by
  obtain ⟨_, _, hd, _⟩ := h; exact hd.row.lt
theorem HIs.lt {w : World} {hk : Pu.HK} {b sb : Nat} {l : By} (h : HIs w hk b sb l) : b < w.heap.size ∧ sb < w.heap.size := by
  cases hk with
  | sha kt => obtain ⟨h1, h2, h3⟩ := h; rw [h3]; exact ⟨h2.lt, h2.lt⟩
  | own s bl => exact ⟨OwnAt.row h |>.lt, OwnAt.state h |>.lt⟩
theorem KIs.notDig {w : World} {b : Nat} {kt kt' : List UInt32} {l : By} (hK : KIs w kt) (h : DigIs w b kt' l) : 0 ∉ [b] := by
  obtain ⟨_, _, hd, _⟩ := h
  have := Row.ne hd.row hK.2 (by decide)
  simp only [List.mem_singleton]; omega
/-- Write. -/
theorem hWrite (hk : Pu.HK) (b sb : Nat) (l p : By) (v : Value) (w : World) (h : HIs w hk b sb l) (hv : Rd w v p) (hn : Nm v) (hoff : Off [b, sb] v) (hlen : (l ++ p).length ≤ 1099511627776) :
    Calls Try.prog (fW hk) #[.pointer (some ⟨b, 0, none⟩), v] w fun e w' => e = .returned (.tuple #[.int .i64 p.length, .nilIface]) ∧ Hid (HIs w' hk b sb (l ++ p) ∧ Tch [b, sb] w w') := by
  cases hk with
  | sha kt =>
    obtain ⟨h1, h2, rfl⟩ := h
    refine (digWrite kt sb l p v w h1 h2 hv hn (by intro i hi; have := hoff i hi; simpa using this) (by omega)).mono ?_
    rintro e w' ⟨rfl, h3⟩
    exact ⟨rfl, ⟨h1.tch h3.out.2 (h1.notDig h2), h3.out.1, rfl⟩, h3.out.2.mono (by simp)⟩
  | own s bl =>
    refine (ownWrite b sb s bl l.length _ p v w h hv hoff (by rw [List.length_append] at hlen; unfold maxLen; omega)).mono ?_
    rintro e w' ⟨rfl, h3, h4⟩
    refine ⟨rfl, ?_, h4⟩
    show OwnAt w' b sb s bl (l ++ p).length (ownState s (l ++ p))
    rw [List.length_append, ownState_append]; exact h3
/-- Sum. -/
theorem hSum (hk : Pu.HK) (b sb : Nat) (l xs : By) (v : Value) (w : World) (h : HIs w hk b sb l) (hv : Own w v xs) (hoff : Off [b, sb] v) (hlen : l.length ≤ 1099511627776) (hx : xs.length + 32 ≤ 140737488355328) :
    Calls Try.prog (fS hk) #[.pointer (some ⟨b, 0, none⟩), v] w fun e w' => ∃ v', e = .returned v' ∧ Hid (Grew w w' v v' (xs ++ hk.hash l)) := by
  cases hk with
  | sha kt =>
    obtain ⟨h1, h2, rfl⟩ := h
    exact digSum kt sb l xs v w h1 h2 (by omega) hv hx
  | own s bl => exact ownSum b sb s bl l.length _ xs v w h hv hoff (by unfold maxLen; omega) hx
/-- Reset. -/
theorem hReset (hk : Pu.HK) (b sb : Nat) (l : By) (w : World) (h : HIs w hk b sb l) :
    Calls Try.prog (fR hk) #[.pointer (some ⟨b, 0, none⟩)] w fun e w' => e = .returned (.tuple #[]) ∧ Hid (HIs w' hk b sb [] ∧ Tch [b, sb] w w') := by
  cases hk with
  | sha kt =>
    obtain ⟨h1, h2, rfl⟩ := h
    refine (digReset kt sb l w h2).mono ?_
    rintro e w' ⟨rfl, h3⟩
    exact ⟨rfl, ⟨h1.tch h3.out.2 (h1.notDig h2), h3.out.1, rfl⟩, h3.out.2.mono (by simp)⟩
  | own s bl =>
    refine (ownReset b sb s bl l.length _ w h).mono ?_
    rintro e w' ⟨rfl, h3⟩
    exact ⟨rfl, h3.out⟩
/-- BlockSize. -/
theorem hBlock (hk : Pu.HK) (b sb : Nat) (l : By) (w : World) (h : HIs w hk b sb l) :
    Calls Try.prog (fB hk) #[.pointer (some ⟨b, 0, none⟩)] w fun e w' => e = .returned (.int .i64 hk.block) ∧ w = w' := by
  cases hk with
  | sha kt => exact digBlockSize _ w
  | own s bl => exact ownBlockSize b sb s bl l.length _ w h
/-- Size. -/
theorem hSize (hk : Pu.HK) (b sb : Nat) (l : By) (w : World) (h : HIs w hk b sb l) :
    Calls Try.prog (fZ hk) #[.pointer (some ⟨b, 0, none⟩)] w fun e w' => e = .returned (.int .i64 hk.size) ∧ w = w' := by
  cases hk with
  | sha kt => exact digSize kt b l w h.2.1
  | own s bl => exact ownSize b sb s bl l.length _ w h
end Go.Proofs.Ytgomodhhomekpaa
