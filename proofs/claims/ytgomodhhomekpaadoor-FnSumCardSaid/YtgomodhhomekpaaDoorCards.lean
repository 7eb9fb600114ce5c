/-
  DERIVED. GIVEN WITH THE SEED: THE CARDS: each row of YtgomodhhomekpaaDoorRows.lean that lists a variable, with what it lists TIED to the program's text (the seventh form; the later family's looks); each row that meets fmt, with fmt's text TOLD by the authors' own Lean function (tested against real Go, not proved from fmt's source: count such statements apart). THE CARD IS WHAT COUNTS. Prove the row's statement (the work); the ties are given (YtgomodhhomekpaaDoorTie.lean); close each card by the builder's one call (the guide's Derived/Test/ToyasCard.lean, 'card_holds'). Laid BY PROGRAM, IN A SANDBOX (cutbox-door.mjs). By AI agents, Wed Nov 11 2026. No macro, syntax, notation, axiom, sorry.
-/
import Derived.Test.YtgomodhhomekpaaDoorRows
import GoSem.ClaimSeven
namespace Go.Proofs.YtgomodhhomekpaaDoor
namespace Rows

/-- THE TIED CARD OF 'laws.FnSum'. -/
def fnSumCard : Claim7 := { stood := { row := fnSumRow, standIns := [], harness := (true, "0235bc63eff8adddbf93902c6421eb679e6ddf727874e12d9e320e59bfa9d48c"), looks := true }, kinds := [], alts := [], laidByText := true, laidKinds := [.data], laidTests := true, laidLooks := .later }
def FnSumCardSaid : Prop := Claim7.holds Tryd.pinned (.plain (OpenSpec.ofChange fnSumSpec)) fnSumCard

/-- THE TIED CARD OF 'laws.FnLongKey'. -/
def fnLongKeyCard : Claim7 := { stood := { row := fnLongKeyRow, standIns := [], harness := (true, "0235bc63eff8adddbf93902c6421eb679e6ddf727874e12d9e320e59bfa9d48c"), looks := true }, kinds := [], alts := [], laidByText := true, laidKinds := [.data], laidTests := true, laidLooks := .later }
def FnLongKeyCardSaid : Prop := Claim7.holds Tryd.pinned (.plain (OpenSpec.ofChange fnLongKeySpec)) fnLongKeyCard

/-- THE SECOND FORM's CARD OF 'laws.FnSum'. -/
def fnSumUptoCard : Claim7 := { stood := { row := fnSumUptoRow, standIns := [], harness := (true, "0235bc63eff8adddbf93902c6421eb679e6ddf727874e12d9e320e59bfa9d48c"), looks := true }, kinds := [], alts := [], laidByText := true, laidKinds := [.data], laidTests := true, laidLooks := .later }
def FnSumUptoCardSaid : Prop := Claim7.holds Tryd.pinned (.plain (OpenSpec.upto fnSumSpec)) fnSumUptoCard

/-- THE SECOND FORM's CARD OF 'laws.FnLongKey'. -/
def fnLongKeyUptoCard : Claim7 := { stood := { row := fnLongKeyUptoRow, standIns := [], harness := (true, "0235bc63eff8adddbf93902c6421eb679e6ddf727874e12d9e320e59bfa9d48c"), looks := true }, kinds := [], alts := [], laidByText := true, laidKinds := [.data], laidTests := true, laidLooks := .later }
def FnLongKeyUptoCardSaid : Prop := Claim7.holds Tryd.pinned (.plain (OpenSpec.upto fnLongKeySpec)) fnLongKeyUptoCard
end Rows
end Go.Proofs.YtgomodhhomekpaaDoor
