/-
  No cell of these rows narrows 'for every input' (looked for: loops, veiled, ifaces, maps, wideKeys, modest, calm, conditions, laid).
  DERIVED. THE GIVEN ROWS OF THIS SEAT. 4 by the template 'for every input the law returns true; each argument reads behind the call as it read before'; 0 by the template 'total and deterministic' (their statements: Qxb6613426aTotals.lean).
  GIVEN WITH THE SEED: the statements are not yours to turn. If you find one false, say at which input.
  Laid BY PROGRAM, IN A SANDBOX (cutbox-rows.mjs): the forced cells as the released guide's own fill.sh prints them over the translation 4500a4ccd71fdb08… (all of the seat's roots in one cut). By AI agents, Wed Nov 11 2026. No macro, syntax, notation, axiom, sorry.
-/
import Derived.Test.Qxb6613426aChecked
import GoSem.Claim
import GoSem.ClaimJoined
import GoSem.ClaimMapViews
import Derived.JoinedTies
import Derived.KernelRfl
namespace Go.Proofs.Qxb6613426a
/- THE CELL 'sum', in the pinned program and in every row, IS THE sha256 OF THE DUMP (.gsa) THAT Qxb6613426aProg.lean LOADS. Nothing in Lean hashes anything: it is a label: what it is worth is what the hold of that sum in a sandbox is worth. -/
noncomputable def Try.pinned : Pinned := { name := "qxb6613426a", sum := "4500a4ccd71fdb08c610fa394f86b74e59b392c07917617ac081b0f39cc129a8", checked := Try.checked }
namespace Rows
def none {H : Type} : Left H := { results := [], args := [] }

/-- 'zzlaws_root_b1.FnScaledIsTheGreaterOfTheTwoMisses': WHATEVER THE INPUT: true; the input reads as it did. -/
def fnScaledIsTheGreaterOfTheTwoMissesSpec : ChangeSpec := { name := "fnScaledIsTheGreaterOfTheTwoMisses", fn := fun _ => fun
  | [d1, d2, d3, d4, d5, d6] => { results := [.lit (.bool true)], args := [d1, d2, d3, d4, d5, d6] }
  | _ => none }
def fnScaledIsTheGreaterOfTheTwoMissesRow : OpenClaim := { program := "qxb6613426a", sum := "4500a4ccd71fdb08c610fa394f86b74e59b392c07917617ac081b0f39cc129a8", func := "example.com/careful-context/careful-context/zzlaws_root_b1.FnScaledIsTheGreaterOfTheTwoMisses", spec := "fnScaledIsTheGreaterOfTheTwoMisses", inPlace := ["math/bits.Add64"], named := ["math/bits.divideError", "math/bits.overflowError"], apart := false }
def FnScaledIsTheGreaterOfTheTwoMissesSaid : Prop := fnScaledIsTheGreaterOfTheTwoMissesRow.holds Try.pinned (OpenSpec.ofChange fnScaledIsTheGreaterOfTheTwoMissesSpec)

/-- ITS FALSE NEIGHBOUR: 'it returns false'. Refute it at one input. -/
def fnScaledIsTheGreaterOfTheTwoMissesWrong : ChangeSpec := { name := "fnScaledIsTheGreaterOfTheTwoMisses", fn := fun _ => fun
  | [d1, d2, d3, d4, d5, d6] => { results := [.lit (.bool false)], args := [d1, d2, d3, d4, d5, d6] }
  | _ => none }
def FnScaledIsTheGreaterOfTheTwoMissesWrongFalsely : Prop := fnScaledIsTheGreaterOfTheTwoMissesRow.holds Try.pinned (OpenSpec.ofChange fnScaledIsTheGreaterOfTheTwoMissesWrong)

/-- 'zzlaws_root_b1.FnChars4FourPlainCharactersCountOne': WHATEVER THE INPUT: true; the input reads as it did. -/
def fnChars4FourPlainCharactersCountOneSpec : ChangeSpec := { name := "fnChars4FourPlainCharactersCountOne", fn := fun _ => fun
  | [d1, d2] => { results := [.lit (.bool true)], args := [d1, d2] }
  | _ => none }
def fnChars4FourPlainCharactersCountOneRow : OpenClaim := { program := "qxb6613426a", sum := "4500a4ccd71fdb08c610fa394f86b74e59b392c07917617ac081b0f39cc129a8", func := "example.com/careful-context/careful-context/zzlaws_root_b1.FnChars4FourPlainCharactersCountOne", spec := "fnChars4FourPlainCharactersCountOne", apart := false }
def FnChars4FourPlainCharactersCountOneSaid : Prop := fnChars4FourPlainCharactersCountOneRow.holds Try.pinned (OpenSpec.ofChange fnChars4FourPlainCharactersCountOneSpec)

/-- ITS FALSE NEIGHBOUR: 'it returns false'. Refute it at one input. -/
def fnChars4FourPlainCharactersCountOneWrong : ChangeSpec := { name := "fnChars4FourPlainCharactersCountOne", fn := fun _ => fun
  | [d1, d2] => { results := [.lit (.bool false)], args := [d1, d2] }
  | _ => none }
def FnChars4FourPlainCharactersCountOneWrongFalsely : Prop := fnChars4FourPlainCharactersCountOneRow.holds Try.pinned (OpenSpec.ofChange fnChars4FourPlainCharactersCountOneWrong)

/-- 'zzlaws_root_b1.FnChars4SplitAnywhere': WHATEVER THE INPUT: true; the input reads as it did. -/
def fnChars4SplitAnywhereSpec : ChangeSpec := { name := "fnChars4SplitAnywhere", fn := fun _ => fun
  | [d1, d2] => { results := [.lit (.bool true)], args := [d1, d2] }
  | _ => none }
def fnChars4SplitAnywhereRow : OpenClaim := { program := "qxb6613426a", sum := "4500a4ccd71fdb08c610fa394f86b74e59b392c07917617ac081b0f39cc129a8", func := "example.com/careful-context/careful-context/zzlaws_root_b1.FnChars4SplitAnywhere", spec := "fnChars4SplitAnywhere", apart := false }
def FnChars4SplitAnywhereSaid : Prop := fnChars4SplitAnywhereRow.holds Try.pinned (OpenSpec.ofChange fnChars4SplitAnywhereSpec)

/-- ITS FALSE NEIGHBOUR: 'it returns false'. Refute it at one input. -/
def fnChars4SplitAnywhereWrong : ChangeSpec := { name := "fnChars4SplitAnywhere", fn := fun _ => fun
  | [d1, d2] => { results := [.lit (.bool false)], args := [d1, d2] }
  | _ => none }
def FnChars4SplitAnywhereWrongFalsely : Prop := fnChars4SplitAnywhereRow.holds Try.pinned (OpenSpec.ofChange fnChars4SplitAnywhereWrong)

/-- 'zzlaws_root_b1.FnWithPartCostAsksTheNewCostFirst': WHATEVER THE INPUT: true; the input reads as it did. -/
def fnWithPartCostAsksTheNewCostFirstSpec : ChangeSpec := { name := "fnWithPartCostAsksTheNewCostFirst", fn := fun _ => fun
  | [d1, d2, d3, d4, d5, d6] => { results := [.lit (.bool true)], args := [d1, d2, d3, d4, d5, d6] }
  | _ => none }
def fnWithPartCostAsksTheNewCostFirstRow : OpenClaim := { program := "qxb6613426a", sum := "4500a4ccd71fdb08c610fa394f86b74e59b392c07917617ac081b0f39cc129a8", func := "example.com/careful-context/careful-context/zzlaws_root_b1.FnWithPartCostAsksTheNewCostFirst", spec := "fnWithPartCostAsksTheNewCostFirst", unfollowed := true, recurses := true, apart := false }
def FnWithPartCostAsksTheNewCostFirstSaid : Prop := fnWithPartCostAsksTheNewCostFirstRow.holds Try.pinned (OpenSpec.ofChange fnWithPartCostAsksTheNewCostFirstSpec)

/-- ITS FALSE NEIGHBOUR: 'it returns false'. Refute it at one input. -/
def fnWithPartCostAsksTheNewCostFirstWrong : ChangeSpec := { name := "fnWithPartCostAsksTheNewCostFirst", fn := fun _ => fun
  | [d1, d2, d3, d4, d5, d6] => { results := [.lit (.bool false)], args := [d1, d2, d3, d4, d5, d6] }
  | _ => none }
def FnWithPartCostAsksTheNewCostFirstWrongFalsely : Prop := fnWithPartCostAsksTheNewCostFirstRow.holds Try.pinned (OpenSpec.ofChange fnWithPartCostAsksTheNewCostFirstWrong)

end Rows
end Go.Proofs.Qxb6613426a
