/-
  No cell of these rows narrows 'for every input' (looked for: loops, veiled, ifaces, maps, wideKeys, modest, calm, conditions, laid).
  DERIVED. THE GIVEN ROWS OF THIS SEAT. 22 by the template 'for every input the law returns true; each argument reads behind the call as it read before'; 0 by the template 'total and deterministic' (their statements: YtgomodhhomekpaaTotals.lean).
  GIVEN WITH THE SEED: the statements are not yours to turn. If you find one false, say at which input.
  Laid BY PROGRAM, IN A SANDBOX (cutbox-rows.mjs): the forced cells as the released guide's own fill.sh prints them over the translation 7bd0fe1d05b79140… (all of the seat's roots in one cut). By AI agents, Wed Nov 11 2026. No macro, syntax, notation, axiom, sorry.
-/
import Derived.Test.YtgomodhhomekpaaChecked
import GoSem.Claim
import GoSem.ClaimJoined
import GoSem.ClaimMapViews
import Derived.JoinedTies
import Derived.KernelRfl
namespace Go.Proofs.Ytgomodhhomekpaa
/- THE CELL 'sum', in the pinned program and in every row, IS THE sha256 OF THE DUMP (.gsa) THAT YtgomodhhomekpaaProg.lean LOADS. Nothing in Lean hashes anything: it is a label: what it is worth is what the hold of that sum in a sandbox is worth. -/
noncomputable def Try.pinned : Pinned := { name := "ytgomodhhomekpaa", sum := "7bd0fe1d05b791409a6cfb19e24cba9d08b755057998406738c0885602e3205b", checked := Try.checked }
namespace Rows
def none {H : Type} : Left H := { results := [], args := [] }

/-- 'laws.FnCuts': WHATEVER THE INPUT: true; the input reads as it did. -/
def fnCutsSpec : ChangeSpec := { name := "fnCuts", fn := fun _ => fun
  | [d1, d2, d3, d4] => { results := [.lit (.bool true)], args := [d1, d2, d3, d4] }
  | _ => none }
def fnCutsRow : OpenClaim := { program := "ytgomodhhomekpaa", sum := "7bd0fe1d05b791409a6cfb19e24cba9d08b755057998406738c0885602e3205b", func := "loop.example/pub-g03128/laws.FnCuts", spec := "fnCuts", unfollowed := true, recurses := true, apart := false }
def FnCutsSaid : Prop := fnCutsRow.holds Try.pinned (OpenSpec.ofChange fnCutsSpec)

/-- ITS FALSE NEIGHBOUR: 'it returns false'. Refute it at one input. -/
def fnCutsWrong : ChangeSpec := { name := "fnCuts", fn := fun _ => fun
  | [d1, d2, d3, d4] => { results := [.lit (.bool false)], args := [d1, d2, d3, d4] }
  | _ => none }
def FnCutsWrongFalsely : Prop := fnCutsRow.holds Try.pinned (OpenSpec.ofChange fnCutsWrong)

/-- 'laws.FnBoth': WHATEVER THE INPUT: true; the input reads as it did. -/
def fnBothSpec : ChangeSpec := { name := "fnBoth", fn := fun _ => fun
  | [d1, d2, d3, d4, d5] => { results := [.lit (.bool true)], args := [d1, d2, d3, d4, d5] }
  | _ => none }
def fnBothRow : OpenClaim := { program := "ytgomodhhomekpaa", sum := "7bd0fe1d05b791409a6cfb19e24cba9d08b755057998406738c0885602e3205b", func := "loop.example/pub-g03128/laws.FnBoth", spec := "fnBoth", unfollowed := true, recurses := true, apart := false }
def FnBothSaid : Prop := fnBothRow.holds Try.pinned (OpenSpec.ofChange fnBothSpec)

/-- ITS FALSE NEIGHBOUR: 'it returns false'. Refute it at one input. -/
def fnBothWrong : ChangeSpec := { name := "fnBoth", fn := fun _ => fun
  | [d1, d2, d3, d4, d5] => { results := [.lit (.bool false)], args := [d1, d2, d3, d4, d5] }
  | _ => none }
def FnBothWrongFalsely : Prop := fnBothRow.holds Try.pinned (OpenSpec.ofChange fnBothWrong)

/-- 'laws.FnMac': WHATEVER THE INPUT: true; the input reads as it did. -/
def fnMacSpec : ChangeSpec := { name := "fnMac", fn := fun _ => fun
  | [d1, d2, d3] => { results := [.lit (.bool true)], args := [d1, d2, d3] }
  | _ => none }
def fnMacRow : OpenClaim := { program := "ytgomodhhomekpaa", sum := "7bd0fe1d05b791409a6cfb19e24cba9d08b755057998406738c0885602e3205b", func := "loop.example/pub-g03128/laws.FnMac", spec := "fnMac", unfollowed := true, recurses := true, apart := false }
def FnMacSaid : Prop := fnMacRow.holds Try.pinned (OpenSpec.ofChange fnMacSpec)

/-- ITS FALSE NEIGHBOUR: 'it returns false'. Refute it at one input. -/
def fnMacWrong : ChangeSpec := { name := "fnMac", fn := fun _ => fun
  | [d1, d2, d3] => { results := [.lit (.bool false)], args := [d1, d2, d3] }
  | _ => none }
def FnMacWrongFalsely : Prop := fnMacRow.holds Try.pinned (OpenSpec.ofChange fnMacWrong)

/-- 'laws.FnNoughts': WHATEVER THE INPUT: true; the input reads as it did. -/
def fnNoughtsSpec : ChangeSpec := { name := "fnNoughts", fn := fun _ => fun
  | [d1, d2, d3, d4] => { results := [.lit (.bool true)], args := [d1, d2, d3, d4] }
  | _ => none }
def fnNoughtsRow : OpenClaim := { program := "ytgomodhhomekpaa", sum := "7bd0fe1d05b791409a6cfb19e24cba9d08b755057998406738c0885602e3205b", func := "loop.example/pub-g03128/laws.FnNoughts", spec := "fnNoughts", unfollowed := true, recurses := true, apart := false }
def FnNoughtsSaid : Prop := fnNoughtsRow.holds Try.pinned (OpenSpec.ofChange fnNoughtsSpec)

/-- ITS FALSE NEIGHBOUR: 'it returns false'. Refute it at one input. -/
def fnNoughtsWrong : ChangeSpec := { name := "fnNoughts", fn := fun _ => fun
  | [d1, d2, d3, d4] => { results := [.lit (.bool false)], args := [d1, d2, d3, d4] }
  | _ => none }
def FnNoughtsWrongFalsely : Prop := fnNoughtsRow.holds Try.pinned (OpenSpec.ofChange fnNoughtsWrong)

/-- 'laws.FnOnce': WHATEVER THE INPUT: true; the input reads as it did. -/
def fnOnceSpec : ChangeSpec := { name := "fnOnce", fn := fun _ => fun
  | [d1, d2, d3, d4] => { results := [.lit (.bool true)], args := [d1, d2, d3, d4] }
  | _ => none }
def fnOnceRow : OpenClaim := { program := "ytgomodhhomekpaa", sum := "7bd0fe1d05b791409a6cfb19e24cba9d08b755057998406738c0885602e3205b", func := "loop.example/pub-g03128/laws.FnOnce", spec := "fnOnce", unfollowed := true, recurses := true, apart := false }
def FnOnceSaid : Prop := fnOnceRow.holds Try.pinned (OpenSpec.ofChange fnOnceSpec)

/-- ITS FALSE NEIGHBOUR: 'it returns false'. Refute it at one input. -/
def fnOnceWrong : ChangeSpec := { name := "fnOnce", fn := fun _ => fun
  | [d1, d2, d3, d4] => { results := [.lit (.bool false)], args := [d1, d2, d3, d4] }
  | _ => none }
def FnOnceWrongFalsely : Prop := fnOnceRow.holds Try.pinned (OpenSpec.ofChange fnOnceWrong)

/-- 'laws.FnSteps': WHATEVER THE INPUT: true; the input reads as it did. -/
def fnStepsSpec : ChangeSpec := { name := "fnSteps", fn := fun _ => fun
  | [d1, d2, d3, d4] => { results := [.lit (.bool true)], args := [d1, d2, d3, d4] }
  | _ => none }
def fnStepsRow : OpenClaim := { program := "ytgomodhhomekpaa", sum := "7bd0fe1d05b791409a6cfb19e24cba9d08b755057998406738c0885602e3205b", func := "loop.example/pub-g03128/laws.FnSteps", spec := "fnSteps", unfollowed := true, recurses := true, apart := false }
def FnStepsSaid : Prop := fnStepsRow.holds Try.pinned (OpenSpec.ofChange fnStepsSpec)

/-- ITS FALSE NEIGHBOUR: 'it returns false'. Refute it at one input. -/
def fnStepsWrong : ChangeSpec := { name := "fnSteps", fn := fun _ => fun
  | [d1, d2, d3, d4] => { results := [.lit (.bool false)], args := [d1, d2, d3, d4] }
  | _ => none }
def FnStepsWrongFalsely : Prop := fnStepsRow.holds Try.pinned (OpenSpec.ofChange fnStepsWrong)

/-- 'laws.FnRounds': WHATEVER THE INPUT: true; the input reads as it did. -/
def fnRoundsSpec : ChangeSpec := { name := "fnRounds", fn := fun _ => fun
  | [d1, d2, d3, d4] => { results := [.lit (.bool true)], args := [d1, d2, d3, d4] }
  | _ => none }
def fnRoundsRow : OpenClaim := { program := "ytgomodhhomekpaa", sum := "7bd0fe1d05b791409a6cfb19e24cba9d08b755057998406738c0885602e3205b", func := "loop.example/pub-g03128/laws.FnRounds", spec := "fnRounds", unfollowed := true, recurses := true, apart := false }
def FnRoundsSaid : Prop := fnRoundsRow.holds Try.pinned (OpenSpec.ofChange fnRoundsSpec)

/-- ITS FALSE NEIGHBOUR: 'it returns false'. Refute it at one input. -/
def fnRoundsWrong : ChangeSpec := { name := "fnRounds", fn := fun _ => fun
  | [d1, d2, d3, d4] => { results := [.lit (.bool false)], args := [d1, d2, d3, d4] }
  | _ => none }
def FnRoundsWrongFalsely : Prop := fnRoundsRow.holds Try.pinned (OpenSpec.ofChange fnRoundsWrong)

/-- 'laws.FnSizes': WHATEVER THE INPUT: true; the input reads as it did. -/
def fnSizesSpec : ChangeSpec := { name := "fnSizes", fn := fun _ => fun
  | [d1, d2] => { results := [.lit (.bool true)], args := [d1, d2] }
  | _ => none }
def fnSizesRow : OpenClaim := { program := "ytgomodhhomekpaa", sum := "7bd0fe1d05b791409a6cfb19e24cba9d08b755057998406738c0885602e3205b", func := "loop.example/pub-g03128/laws.FnSizes", spec := "fnSizes", unfollowed := true, recurses := true, apart := false }
def FnSizesSaid : Prop := fnSizesRow.holds Try.pinned (OpenSpec.ofChange fnSizesSpec)

/-- ITS FALSE NEIGHBOUR: 'it returns false'. Refute it at one input. -/
def fnSizesWrong : ChangeSpec := { name := "fnSizes", fn := fun _ => fun
  | [d1, d2] => { results := [.lit (.bool false)], args := [d1, d2] }
  | _ => none }
def FnSizesWrongFalsely : Prop := fnSizesRow.holds Try.pinned (OpenSpec.ofChange fnSizesWrong)

/-- 'laws.FnAgain': WHATEVER THE INPUT: true; the input reads as it did. -/
def fnAgainSpec : ChangeSpec := { name := "fnAgain", fn := fun _ => fun
  | [d1, d2, d3, d4] => { results := [.lit (.bool true)], args := [d1, d2, d3, d4] }
  | _ => none }
def fnAgainRow : OpenClaim := { program := "ytgomodhhomekpaa", sum := "7bd0fe1d05b791409a6cfb19e24cba9d08b755057998406738c0885602e3205b", func := "loop.example/pub-g03128/laws.FnAgain", spec := "fnAgain", unfollowed := true, recurses := true, apart := false }
def FnAgainSaid : Prop := fnAgainRow.holds Try.pinned (OpenSpec.ofChange fnAgainSpec)

/-- ITS FALSE NEIGHBOUR: 'it returns false'. Refute it at one input. -/
def fnAgainWrong : ChangeSpec := { name := "fnAgain", fn := fun _ => fun
  | [d1, d2, d3, d4] => { results := [.lit (.bool false)], args := [d1, d2, d3, d4] }
  | _ => none }
def FnAgainWrongFalsely : Prop := fnAgainRow.holds Try.pinned (OpenSpec.ofChange fnAgainWrong)

/-- 'laws.FnExtract': WHATEVER THE INPUT: true; the input reads as it did. -/
def fnExtractSpec : ChangeSpec := { name := "fnExtract", fn := fun _ => fun
  | [d1, d2, d3] => { results := [.lit (.bool true)], args := [d1, d2, d3] }
  | _ => none }
def fnExtractRow : OpenClaim := { program := "ytgomodhhomekpaa", sum := "7bd0fe1d05b791409a6cfb19e24cba9d08b755057998406738c0885602e3205b", func := "loop.example/pub-g03128/laws.FnExtract", spec := "fnExtract", unfollowed := true, recurses := true, apart := false }
def FnExtractSaid : Prop := fnExtractRow.holds Try.pinned (OpenSpec.ofChange fnExtractSpec)

/-- ITS FALSE NEIGHBOUR: 'it returns false'. Refute it at one input. -/
def fnExtractWrong : ChangeSpec := { name := "fnExtract", fn := fun _ => fun
  | [d1, d2, d3] => { results := [.lit (.bool false)], args := [d1, d2, d3] }
  | _ => none }
def FnExtractWrongFalsely : Prop := fnExtractRow.holds Try.pinned (OpenSpec.ofChange fnExtractWrong)

/-- 'laws.FnNoSalt': WHATEVER THE INPUT: true; the input reads as it did. -/
def fnNoSaltSpec : ChangeSpec := { name := "fnNoSalt", fn := fun _ => fun
  | [d1, d2] => { results := [.lit (.bool true)], args := [d1, d2] }
  | _ => none }
def fnNoSaltRow : OpenClaim := { program := "ytgomodhhomekpaa", sum := "7bd0fe1d05b791409a6cfb19e24cba9d08b755057998406738c0885602e3205b", func := "loop.example/pub-g03128/laws.FnNoSalt", spec := "fnNoSalt", unfollowed := true, recurses := true, apart := false }
def FnNoSaltSaid : Prop := fnNoSaltRow.holds Try.pinned (OpenSpec.ofChange fnNoSaltSpec)

/-- ITS FALSE NEIGHBOUR: 'it returns false'. Refute it at one input. -/
def fnNoSaltWrong : ChangeSpec := { name := "fnNoSalt", fn := fun _ => fun
  | [d1, d2] => { results := [.lit (.bool false)], args := [d1, d2] }
  | _ => none }
def FnNoSaltWrongFalsely : Prop := fnNoSaltRow.holds Try.pinned (OpenSpec.ofChange fnNoSaltWrong)

/-- 'laws.FnExpand': WHATEVER THE INPUT: true; the input reads as it did. -/
def fnExpandSpec : ChangeSpec := { name := "fnExpand", fn := fun _ => fun
  | [d1, d2, d3, d4] => { results := [.lit (.bool true)], args := [d1, d2, d3, d4] }
  | _ => none }
def fnExpandRow : OpenClaim := { program := "ytgomodhhomekpaa", sum := "7bd0fe1d05b791409a6cfb19e24cba9d08b755057998406738c0885602e3205b", func := "loop.example/pub-g03128/laws.FnExpand", spec := "fnExpand", unfollowed := true, recurses := true, apart := false }
def FnExpandSaid : Prop := fnExpandRow.holds Try.pinned (OpenSpec.ofChange fnExpandSpec)

/-- ITS FALSE NEIGHBOUR: 'it returns false'. Refute it at one input. -/
def fnExpandWrong : ChangeSpec := { name := "fnExpand", fn := fun _ => fun
  | [d1, d2, d3, d4] => { results := [.lit (.bool false)], args := [d1, d2, d3, d4] }
  | _ => none }
def FnExpandWrongFalsely : Prop := fnExpandRow.holds Try.pinned (OpenSpec.ofChange fnExpandWrong)

/-- 'laws.FnPrefix': WHATEVER THE INPUT: true; the input reads as it did. -/
def fnPrefixSpec : ChangeSpec := { name := "fnPrefix", fn := fun _ => fun
  | [d1, d2, d3, d4, d5] => { results := [.lit (.bool true)], args := [d1, d2, d3, d4, d5] }
  | _ => none }
def fnPrefixRow : OpenClaim := { program := "ytgomodhhomekpaa", sum := "7bd0fe1d05b791409a6cfb19e24cba9d08b755057998406738c0885602e3205b", func := "loop.example/pub-g03128/laws.FnPrefix", spec := "fnPrefix", unfollowed := true, recurses := true, apart := false }
def FnPrefixSaid : Prop := fnPrefixRow.holds Try.pinned (OpenSpec.ofChange fnPrefixSpec)

/-- ITS FALSE NEIGHBOUR: 'it returns false'. Refute it at one input. -/
def fnPrefixWrong : ChangeSpec := { name := "fnPrefix", fn := fun _ => fun
  | [d1, d2, d3, d4, d5] => { results := [.lit (.bool false)], args := [d1, d2, d3, d4, d5] }
  | _ => none }
def FnPrefixWrongFalsely : Prop := fnPrefixRow.holds Try.pinned (OpenSpec.ofChange fnPrefixWrong)

/-- 'laws.FnIsMac': WHATEVER THE INPUT: true; the input reads as it did. -/
def fnIsMacSpec : ChangeSpec := { name := "fnIsMac", fn := fun _ => fun
  | [d1, d2, d3] => { results := [.lit (.bool true)], args := [d1, d2, d3] }
  | _ => none }
def fnIsMacRow : OpenClaim := { program := "ytgomodhhomekpaa", sum := "7bd0fe1d05b791409a6cfb19e24cba9d08b755057998406738c0885602e3205b", func := "loop.example/pub-g03128/laws.FnIsMac", spec := "fnIsMac", unfollowed := true, recurses := true, apart := false }
def FnIsMacSaid : Prop := fnIsMacRow.holds Try.pinned (OpenSpec.ofChange fnIsMacSpec)

/-- ITS FALSE NEIGHBOUR: 'it returns false'. Refute it at one input. -/
def fnIsMacWrong : ChangeSpec := { name := "fnIsMac", fn := fun _ => fun
  | [d1, d2, d3] => { results := [.lit (.bool false)], args := [d1, d2, d3] }
  | _ => none }
def FnIsMacWrongFalsely : Prop := fnIsMacRow.holds Try.pinned (OpenSpec.ofChange fnIsMacWrong)

/-- 'laws.FnBlocks': WHATEVER THE INPUT: true; the input reads as it did. -/
def fnBlocksSpec : ChangeSpec := { name := "fnBlocks", fn := fun _ => fun
  | [d1, d2, d3, d4] => { results := [.lit (.bool true)], args := [d1, d2, d3, d4] }
  | _ => none }
def fnBlocksRow : OpenClaim := { program := "ytgomodhhomekpaa", sum := "7bd0fe1d05b791409a6cfb19e24cba9d08b755057998406738c0885602e3205b", func := "loop.example/pub-g03128/laws.FnBlocks", spec := "fnBlocks", unfollowed := true, recurses := true, apart := false }
def FnBlocksSaid : Prop := fnBlocksRow.holds Try.pinned (OpenSpec.ofChange fnBlocksSpec)

/-- ITS FALSE NEIGHBOUR: 'it returns false'. Refute it at one input. -/
def fnBlocksWrong : ChangeSpec := { name := "fnBlocks", fn := fun _ => fun
  | [d1, d2, d3, d4] => { results := [.lit (.bool false)], args := [d1, d2, d3, d4] }
  | _ => none }
def FnBlocksWrongFalsely : Prop := fnBlocksRow.holds Try.pinned (OpenSpec.ofChange fnBlocksWrong)

/-- 'laws.FnMost': WHATEVER THE INPUT: true; the input reads as it did. -/
def fnMostSpec : ChangeSpec := { name := "fnMost", fn := fun _ => fun
  | [d1, d2, d3] => { results := [.lit (.bool true)], args := [d1, d2, d3] }
  | _ => none }
def fnMostRow : OpenClaim := { program := "ytgomodhhomekpaa", sum := "7bd0fe1d05b791409a6cfb19e24cba9d08b755057998406738c0885602e3205b", func := "loop.example/pub-g03128/laws.FnMost", spec := "fnMost", unfollowed := true, recurses := true, apart := false }
def FnMostSaid : Prop := fnMostRow.holds Try.pinned (OpenSpec.ofChange fnMostSpec)

/-- ITS FALSE NEIGHBOUR: 'it returns false'. Refute it at one input. -/
def fnMostWrong : ChangeSpec := { name := "fnMost", fn := fun _ => fun
  | [d1, d2, d3] => { results := [.lit (.bool false)], args := [d1, d2, d3] }
  | _ => none }
def FnMostWrongFalsely : Prop := fnMostRow.holds Try.pinned (OpenSpec.ofChange fnMostWrong)

/-- 'laws.FnKey': WHATEVER THE INPUT: true; the input reads as it did. -/
def fnKeySpec : ChangeSpec := { name := "fnKey", fn := fun _ => fun
  | [d1, d2, d3, d4, d5] => { results := [.lit (.bool true)], args := [d1, d2, d3, d4, d5] }
  | _ => none }
def fnKeyRow : OpenClaim := { program := "ytgomodhhomekpaa", sum := "7bd0fe1d05b791409a6cfb19e24cba9d08b755057998406738c0885602e3205b", func := "loop.example/pub-g03128/laws.FnKey", spec := "fnKey", unfollowed := true, recurses := true, apart := false }
def FnKeySaid : Prop := fnKeyRow.holds Try.pinned (OpenSpec.ofChange fnKeySpec)

/-- ITS FALSE NEIGHBOUR: 'it returns false'. Refute it at one input. -/
def fnKeyWrong : ChangeSpec := { name := "fnKey", fn := fun _ => fun
  | [d1, d2, d3, d4, d5] => { results := [.lit (.bool false)], args := [d1, d2, d3, d4, d5] }
  | _ => none }
def FnKeyWrongFalsely : Prop := fnKeyRow.holds Try.pinned (OpenSpec.ofChange fnKeyWrong)

/-- 'laws.FnDerive': WHATEVER THE INPUT: true; the input reads as it did. -/
def fnDeriveSpec : ChangeSpec := { name := "fnDerive", fn := fun _ => fun
  | [d1, d2, d3, d4, d5] => { results := [.lit (.bool true)], args := [d1, d2, d3, d4, d5] }
  | _ => none }
def fnDeriveRow : OpenClaim := { program := "ytgomodhhomekpaa", sum := "7bd0fe1d05b791409a6cfb19e24cba9d08b755057998406738c0885602e3205b", func := "loop.example/pub-g03128/laws.FnDerive", spec := "fnDerive", unfollowed := true, recurses := true, apart := false }
def FnDeriveSaid : Prop := fnDeriveRow.holds Try.pinned (OpenSpec.ofChange fnDeriveSpec)

/-- ITS FALSE NEIGHBOUR: 'it returns false'. Refute it at one input. -/
def fnDeriveWrong : ChangeSpec := { name := "fnDerive", fn := fun _ => fun
  | [d1, d2, d3, d4, d5] => { results := [.lit (.bool false)], args := [d1, d2, d3, d4, d5] }
  | _ => none }
def FnDeriveWrongFalsely : Prop := fnDeriveRow.holds Try.pinned (OpenSpec.ofChange fnDeriveWrong)

/-- 'laws.FnDerivePrefix': WHATEVER THE INPUT: true; the input reads as it did. -/
def fnDerivePrefixSpec : ChangeSpec := { name := "fnDerivePrefix", fn := fun _ => fun
  | [d1, d2, d3, d4, d5, d6] => { results := [.lit (.bool true)], args := [d1, d2, d3, d4, d5, d6] }
  | _ => none }
def fnDerivePrefixRow : OpenClaim := { program := "ytgomodhhomekpaa", sum := "7bd0fe1d05b791409a6cfb19e24cba9d08b755057998406738c0885602e3205b", func := "loop.example/pub-g03128/laws.FnDerivePrefix", spec := "fnDerivePrefix", unfollowed := true, recurses := true, apart := false }
def FnDerivePrefixSaid : Prop := fnDerivePrefixRow.holds Try.pinned (OpenSpec.ofChange fnDerivePrefixSpec)

/-- ITS FALSE NEIGHBOUR: 'it returns false'. Refute it at one input. -/
def fnDerivePrefixWrong : ChangeSpec := { name := "fnDerivePrefix", fn := fun _ => fun
  | [d1, d2, d3, d4, d5, d6] => { results := [.lit (.bool false)], args := [d1, d2, d3, d4, d5, d6] }
  | _ => none }
def FnDerivePrefixWrongFalsely : Prop := fnDerivePrefixRow.holds Try.pinned (OpenSpec.ofChange fnDerivePrefixWrong)

/-- 'laws.FnPasswordNoughts': WHATEVER THE INPUT: true; the input reads as it did. -/
def fnPasswordNoughtsSpec : ChangeSpec := { name := "fnPasswordNoughts", fn := fun _ => fun
  | [d1, d2, d3, d4, d5] => { results := [.lit (.bool true)], args := [d1, d2, d3, d4, d5] }
  | _ => none }
def fnPasswordNoughtsRow : OpenClaim := { program := "ytgomodhhomekpaa", sum := "7bd0fe1d05b791409a6cfb19e24cba9d08b755057998406738c0885602e3205b", func := "loop.example/pub-g03128/laws.FnPasswordNoughts", spec := "fnPasswordNoughts", unfollowed := true, recurses := true, apart := false }
def FnPasswordNoughtsSaid : Prop := fnPasswordNoughtsRow.holds Try.pinned (OpenSpec.ofChange fnPasswordNoughtsSpec)

/-- ITS FALSE NEIGHBOUR: 'it returns false'. Refute it at one input. -/
def fnPasswordNoughtsWrong : ChangeSpec := { name := "fnPasswordNoughts", fn := fun _ => fun
  | [d1, d2, d3, d4, d5] => { results := [.lit (.bool false)], args := [d1, d2, d3, d4, d5] }
  | _ => none }
def FnPasswordNoughtsWrongFalsely : Prop := fnPasswordNoughtsRow.holds Try.pinned (OpenSpec.ofChange fnPasswordNoughtsWrong)

/-- 'laws.FnRefused': WHATEVER THE INPUT: true; the input reads as it did. -/
def fnRefusedSpec : ChangeSpec := { name := "fnRefused", fn := fun _ => fun
  | [d1, d2, d3, d4, d5] => { results := [.lit (.bool true)], args := [d1, d2, d3, d4, d5] }
  | _ => none }
def fnRefusedRow : OpenClaim := { program := "ytgomodhhomekpaa", sum := "7bd0fe1d05b791409a6cfb19e24cba9d08b755057998406738c0885602e3205b", func := "loop.example/pub-g03128/laws.FnRefused", spec := "fnRefused", unfollowed := true, recurses := true, apart := false }
def FnRefusedSaid : Prop := fnRefusedRow.holds Try.pinned (OpenSpec.ofChange fnRefusedSpec)

/-- ITS FALSE NEIGHBOUR: 'it returns false'. Refute it at one input. -/
def fnRefusedWrong : ChangeSpec := { name := "fnRefused", fn := fun _ => fun
  | [d1, d2, d3, d4, d5] => { results := [.lit (.bool false)], args := [d1, d2, d3, d4, d5] }
  | _ => none }
def FnRefusedWrongFalsely : Prop := fnRefusedRow.holds Try.pinned (OpenSpec.ofChange fnRefusedWrong)

/-- 'laws.FnTooLong': WHATEVER THE INPUT: true; the input reads as it did. -/
def fnTooLongSpec : ChangeSpec := { name := "fnTooLong", fn := fun _ => fun
  | [d1, d2, d3, d4] => { results := [.lit (.bool true)], args := [d1, d2, d3, d4] }
  | _ => none }
def fnTooLongRow : OpenClaim := { program := "ytgomodhhomekpaa", sum := "7bd0fe1d05b791409a6cfb19e24cba9d08b755057998406738c0885602e3205b", func := "loop.example/pub-g03128/laws.FnTooLong", spec := "fnTooLong", unfollowed := true, recurses := true, apart := false }
def FnTooLongSaid : Prop := fnTooLongRow.holds Try.pinned (OpenSpec.ofChange fnTooLongSpec)

/-- ITS FALSE NEIGHBOUR: 'it returns false'. Refute it at one input. -/
def fnTooLongWrong : ChangeSpec := { name := "fnTooLong", fn := fun _ => fun
  | [d1, d2, d3, d4] => { results := [.lit (.bool false)], args := [d1, d2, d3, d4] }
  | _ => none }
def FnTooLongWrongFalsely : Prop := fnTooLongRow.holds Try.pinned (OpenSpec.ofChange fnTooLongWrong)

/- THE SECOND FORM. 'bulk': how many values and letters a reading holds, each counted each time it is reached (what is shared counts as often as it is met; a slice's spare places count too). A statement '..UptoSaid' is the law's where the arguments, and the package variables that the reading takes, are together of bulk at most 1048576: NARROWER than '..Said'. Prove '..Said' where nothing that the law and all that it calls make is longer than what came in: it says more and counts as full. Else prove '..UptoSaid'. A law counts once. -/
mutual
def uptoBulk {H : Type} : DataW H → Nat
  | .lit (.string bytes) => bytes.length + 1
  | .lit _ => 1
  | .nil => 1
  | .ptr d => uptoBulk d + 1
  | .slice elems spare => uptoBulkAll elems + uptoBulkAll spare + 1
  | .agg parts => uptoBulkAll parts + 1
  | .iface _ d => uptoBulk d + 1
  | .map entries => uptoBulkEntries entries + 1
  | .held _ => 1
def uptoBulkAll {H : Type} : List (DataW H) → Nat
  | [] => 0
  | d :: r => uptoBulk d + uptoBulkAll r
def uptoBulkEntries {H : Type} : List (Lit × DataW H) → Nat
  | [] => 0
  | x :: r => uptoBulkEntry x + uptoBulkEntries r
def uptoBulkEntry {H : Type} : Lit × DataW H → Nat
  | (.string bytes, d) => bytes.length + uptoBulk d + 1
  | (_, d) => uptoBulk d + 1
 end
def uptoSmall : (H : Type) → List (DataW H) → Bool := fun _ ds => decide (uptoBulkAll ds ≤ 1048576)
def OpenSpec.upto (s : _root_.Go.ChangeSpec) : _root_.Go.OpenSpec := { _root_.Go.OpenSpec.ofChange s with cond := some uptoSmall }

/-- 'laws.FnCuts', WHERE WHAT IT READS IS OF BULK AT MOST 1048576: true; the input reads as it did. -/
def fnCutsUptoRow : OpenClaim := { program := "ytgomodhhomekpaa", sum := "7bd0fe1d05b791409a6cfb19e24cba9d08b755057998406738c0885602e3205b", func := "loop.example/pub-g03128/laws.FnCuts", spec := "fnCuts", unfollowed := true, recurses := true, apart := false, narrowed := true }
def FnCutsUptoSaid : Prop := fnCutsUptoRow.holds Try.pinned (OpenSpec.upto fnCutsSpec)

/-- 'laws.FnBoth', WHERE WHAT IT READS IS OF BULK AT MOST 1048576: true; the input reads as it did. -/
def fnBothUptoRow : OpenClaim := { program := "ytgomodhhomekpaa", sum := "7bd0fe1d05b791409a6cfb19e24cba9d08b755057998406738c0885602e3205b", func := "loop.example/pub-g03128/laws.FnBoth", spec := "fnBoth", unfollowed := true, recurses := true, apart := false, narrowed := true }
def FnBothUptoSaid : Prop := fnBothUptoRow.holds Try.pinned (OpenSpec.upto fnBothSpec)

/-- 'laws.FnMac', WHERE WHAT IT READS IS OF BULK AT MOST 1048576: true; the input reads as it did. -/
def fnMacUptoRow : OpenClaim := { program := "ytgomodhhomekpaa", sum := "7bd0fe1d05b791409a6cfb19e24cba9d08b755057998406738c0885602e3205b", func := "loop.example/pub-g03128/laws.FnMac", spec := "fnMac", unfollowed := true, recurses := true, apart := false, narrowed := true }
def FnMacUptoSaid : Prop := fnMacUptoRow.holds Try.pinned (OpenSpec.upto fnMacSpec)

/-- 'laws.FnNoughts', WHERE WHAT IT READS IS OF BULK AT MOST 1048576: true; the input reads as it did. -/
def fnNoughtsUptoRow : OpenClaim := { program := "ytgomodhhomekpaa", sum := "7bd0fe1d05b791409a6cfb19e24cba9d08b755057998406738c0885602e3205b", func := "loop.example/pub-g03128/laws.FnNoughts", spec := "fnNoughts", unfollowed := true, recurses := true, apart := false, narrowed := true }
def FnNoughtsUptoSaid : Prop := fnNoughtsUptoRow.holds Try.pinned (OpenSpec.upto fnNoughtsSpec)

/-- 'laws.FnOnce', WHERE WHAT IT READS IS OF BULK AT MOST 1048576: true; the input reads as it did. -/
def fnOnceUptoRow : OpenClaim := { program := "ytgomodhhomekpaa", sum := "7bd0fe1d05b791409a6cfb19e24cba9d08b755057998406738c0885602e3205b", func := "loop.example/pub-g03128/laws.FnOnce", spec := "fnOnce", unfollowed := true, recurses := true, apart := false, narrowed := true }
def FnOnceUptoSaid : Prop := fnOnceUptoRow.holds Try.pinned (OpenSpec.upto fnOnceSpec)

/-- 'laws.FnSteps', WHERE WHAT IT READS IS OF BULK AT MOST 1048576: true; the input reads as it did. -/
def fnStepsUptoRow : OpenClaim := { program := "ytgomodhhomekpaa", sum := "7bd0fe1d05b791409a6cfb19e24cba9d08b755057998406738c0885602e3205b", func := "loop.example/pub-g03128/laws.FnSteps", spec := "fnSteps", unfollowed := true, recurses := true, apart := false, narrowed := true }
def FnStepsUptoSaid : Prop := fnStepsUptoRow.holds Try.pinned (OpenSpec.upto fnStepsSpec)

/-- 'laws.FnRounds', WHERE WHAT IT READS IS OF BULK AT MOST 1048576: true; the input reads as it did. -/
def fnRoundsUptoRow : OpenClaim := { program := "ytgomodhhomekpaa", sum := "7bd0fe1d05b791409a6cfb19e24cba9d08b755057998406738c0885602e3205b", func := "loop.example/pub-g03128/laws.FnRounds", spec := "fnRounds", unfollowed := true, recurses := true, apart := false, narrowed := true }
def FnRoundsUptoSaid : Prop := fnRoundsUptoRow.holds Try.pinned (OpenSpec.upto fnRoundsSpec)

/-- 'laws.FnSizes', WHERE WHAT IT READS IS OF BULK AT MOST 1048576: true; the input reads as it did. -/
def fnSizesUptoRow : OpenClaim := { program := "ytgomodhhomekpaa", sum := "7bd0fe1d05b791409a6cfb19e24cba9d08b755057998406738c0885602e3205b", func := "loop.example/pub-g03128/laws.FnSizes", spec := "fnSizes", unfollowed := true, recurses := true, apart := false, narrowed := true }
def FnSizesUptoSaid : Prop := fnSizesUptoRow.holds Try.pinned (OpenSpec.upto fnSizesSpec)

/-- 'laws.FnAgain', WHERE WHAT IT READS IS OF BULK AT MOST 1048576: true; the input reads as it did. -/
def fnAgainUptoRow : OpenClaim := { program := "ytgomodhhomekpaa", sum := "7bd0fe1d05b791409a6cfb19e24cba9d08b755057998406738c0885602e3205b", func := "loop.example/pub-g03128/laws.FnAgain", spec := "fnAgain", unfollowed := true, recurses := true, apart := false, narrowed := true }
def FnAgainUptoSaid : Prop := fnAgainUptoRow.holds Try.pinned (OpenSpec.upto fnAgainSpec)

/-- 'laws.FnExtract', WHERE WHAT IT READS IS OF BULK AT MOST 1048576: true; the input reads as it did. -/
def fnExtractUptoRow : OpenClaim := { program := "ytgomodhhomekpaa", sum := "7bd0fe1d05b791409a6cfb19e24cba9d08b755057998406738c0885602e3205b", func := "loop.example/pub-g03128/laws.FnExtract", spec := "fnExtract", unfollowed := true, recurses := true, apart := false, narrowed := true }
def FnExtractUptoSaid : Prop := fnExtractUptoRow.holds Try.pinned (OpenSpec.upto fnExtractSpec)

/-- 'laws.FnNoSalt', WHERE WHAT IT READS IS OF BULK AT MOST 1048576: true; the input reads as it did. -/
def fnNoSaltUptoRow : OpenClaim := { program := "ytgomodhhomekpaa", sum := "7bd0fe1d05b791409a6cfb19e24cba9d08b755057998406738c0885602e3205b", func := "loop.example/pub-g03128/laws.FnNoSalt", spec := "fnNoSalt", unfollowed := true, recurses := true, apart := false, narrowed := true }
def FnNoSaltUptoSaid : Prop := fnNoSaltUptoRow.holds Try.pinned (OpenSpec.upto fnNoSaltSpec)

/-- 'laws.FnExpand', WHERE WHAT IT READS IS OF BULK AT MOST 1048576: true; the input reads as it did. -/
def fnExpandUptoRow : OpenClaim := { program := "ytgomodhhomekpaa", sum := "7bd0fe1d05b791409a6cfb19e24cba9d08b755057998406738c0885602e3205b", func := "loop.example/pub-g03128/laws.FnExpand", spec := "fnExpand", unfollowed := true, recurses := true, apart := false, narrowed := true }
def FnExpandUptoSaid : Prop := fnExpandUptoRow.holds Try.pinned (OpenSpec.upto fnExpandSpec)

/-- 'laws.FnPrefix', WHERE WHAT IT READS IS OF BULK AT MOST 1048576: true; the input reads as it did. -/
def fnPrefixUptoRow : OpenClaim := { program := "ytgomodhhomekpaa", sum := "7bd0fe1d05b791409a6cfb19e24cba9d08b755057998406738c0885602e3205b", func := "loop.example/pub-g03128/laws.FnPrefix", spec := "fnPrefix", unfollowed := true, recurses := true, apart := false, narrowed := true }
def FnPrefixUptoSaid : Prop := fnPrefixUptoRow.holds Try.pinned (OpenSpec.upto fnPrefixSpec)

/-- 'laws.FnIsMac', WHERE WHAT IT READS IS OF BULK AT MOST 1048576: true; the input reads as it did. -/
def fnIsMacUptoRow : OpenClaim := { program := "ytgomodhhomekpaa", sum := "7bd0fe1d05b791409a6cfb19e24cba9d08b755057998406738c0885602e3205b", func := "loop.example/pub-g03128/laws.FnIsMac", spec := "fnIsMac", unfollowed := true, recurses := true, apart := false, narrowed := true }
def FnIsMacUptoSaid : Prop := fnIsMacUptoRow.holds Try.pinned (OpenSpec.upto fnIsMacSpec)

/-- 'laws.FnBlocks', WHERE WHAT IT READS IS OF BULK AT MOST 1048576: true; the input reads as it did. -/
def fnBlocksUptoRow : OpenClaim := { program := "ytgomodhhomekpaa", sum := "7bd0fe1d05b791409a6cfb19e24cba9d08b755057998406738c0885602e3205b", func := "loop.example/pub-g03128/laws.FnBlocks", spec := "fnBlocks", unfollowed := true, recurses := true, apart := false, narrowed := true }
def FnBlocksUptoSaid : Prop := fnBlocksUptoRow.holds Try.pinned (OpenSpec.upto fnBlocksSpec)

/-- 'laws.FnMost', WHERE WHAT IT READS IS OF BULK AT MOST 1048576: true; the input reads as it did. -/
def fnMostUptoRow : OpenClaim := { program := "ytgomodhhomekpaa", sum := "7bd0fe1d05b791409a6cfb19e24cba9d08b755057998406738c0885602e3205b", func := "loop.example/pub-g03128/laws.FnMost", spec := "fnMost", unfollowed := true, recurses := true, apart := false, narrowed := true }
def FnMostUptoSaid : Prop := fnMostUptoRow.holds Try.pinned (OpenSpec.upto fnMostSpec)

/-- 'laws.FnKey', WHERE WHAT IT READS IS OF BULK AT MOST 1048576: true; the input reads as it did. -/
def fnKeyUptoRow : OpenClaim := { program := "ytgomodhhomekpaa", sum := "7bd0fe1d05b791409a6cfb19e24cba9d08b755057998406738c0885602e3205b", func := "loop.example/pub-g03128/laws.FnKey", spec := "fnKey", unfollowed := true, recurses := true, apart := false, narrowed := true }
def FnKeyUptoSaid : Prop := fnKeyUptoRow.holds Try.pinned (OpenSpec.upto fnKeySpec)

/-- 'laws.FnDerive', WHERE WHAT IT READS IS OF BULK AT MOST 1048576: true; the input reads as it did. -/
def fnDeriveUptoRow : OpenClaim := { program := "ytgomodhhomekpaa", sum := "7bd0fe1d05b791409a6cfb19e24cba9d08b755057998406738c0885602e3205b", func := "loop.example/pub-g03128/laws.FnDerive", spec := "fnDerive", unfollowed := true, recurses := true, apart := false, narrowed := true }
def FnDeriveUptoSaid : Prop := fnDeriveUptoRow.holds Try.pinned (OpenSpec.upto fnDeriveSpec)

/-- 'laws.FnDerivePrefix', WHERE WHAT IT READS IS OF BULK AT MOST 1048576: true; the input reads as it did. -/
def fnDerivePrefixUptoRow : OpenClaim := { program := "ytgomodhhomekpaa", sum := "7bd0fe1d05b791409a6cfb19e24cba9d08b755057998406738c0885602e3205b", func := "loop.example/pub-g03128/laws.FnDerivePrefix", spec := "fnDerivePrefix", unfollowed := true, recurses := true, apart := false, narrowed := true }
def FnDerivePrefixUptoSaid : Prop := fnDerivePrefixUptoRow.holds Try.pinned (OpenSpec.upto fnDerivePrefixSpec)

/-- 'laws.FnPasswordNoughts', WHERE WHAT IT READS IS OF BULK AT MOST 1048576: true; the input reads as it did. -/
def fnPasswordNoughtsUptoRow : OpenClaim := { program := "ytgomodhhomekpaa", sum := "7bd0fe1d05b791409a6cfb19e24cba9d08b755057998406738c0885602e3205b", func := "loop.example/pub-g03128/laws.FnPasswordNoughts", spec := "fnPasswordNoughts", unfollowed := true, recurses := true, apart := false, narrowed := true }
def FnPasswordNoughtsUptoSaid : Prop := fnPasswordNoughtsUptoRow.holds Try.pinned (OpenSpec.upto fnPasswordNoughtsSpec)

/-- 'laws.FnRefused', WHERE WHAT IT READS IS OF BULK AT MOST 1048576: true; the input reads as it did. -/
def fnRefusedUptoRow : OpenClaim := { program := "ytgomodhhomekpaa", sum := "7bd0fe1d05b791409a6cfb19e24cba9d08b755057998406738c0885602e3205b", func := "loop.example/pub-g03128/laws.FnRefused", spec := "fnRefused", unfollowed := true, recurses := true, apart := false, narrowed := true }
def FnRefusedUptoSaid : Prop := fnRefusedUptoRow.holds Try.pinned (OpenSpec.upto fnRefusedSpec)

/-- 'laws.FnTooLong', WHERE WHAT IT READS IS OF BULK AT MOST 1048576: true; the input reads as it did. -/
def fnTooLongUptoRow : OpenClaim := { program := "ytgomodhhomekpaa", sum := "7bd0fe1d05b791409a6cfb19e24cba9d08b755057998406738c0885602e3205b", func := "loop.example/pub-g03128/laws.FnTooLong", spec := "fnTooLong", unfollowed := true, recurses := true, apart := false, narrowed := true }
def FnTooLongUptoSaid : Prop := fnTooLongUptoRow.holds Try.pinned (OpenSpec.upto fnTooLongSpec)

end Rows
end Go.Proofs.Ytgomodhhomekpaa
