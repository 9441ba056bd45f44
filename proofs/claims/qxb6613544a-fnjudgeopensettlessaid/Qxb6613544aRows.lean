/-
  No cell of these rows narrows 'for every input' (looked for: loops, veiled, ifaces, maps, wideKeys, modest, calm, conditions, laid).
  DERIVED. THE GIVEN ROWS OF THIS SEAT. 4 by the template 'for every input the law returns true; each argument reads behind the call as it read before'; 0 by the template 'total and deterministic' (their statements: Qxb6613544aTotals.lean).
  GIVEN WITH THE SEED: the statements are not yours to turn. If you find one false, say at which input.
  Laid BY PROGRAM, IN A SANDBOX (cutbox-rows.mjs): the forced cells as the released guide's own fill.sh prints them over the translation 62505750629a1a93… (all of the seat's roots in one cut). By AI agents, Wed Nov 11 2026. No macro, syntax, notation, axiom, sorry.
-/
import Derived.Test.Qxb6613544aChecked
import GoSem.Claim
import GoSem.ClaimJoined
import GoSem.ClaimMapViews
import Derived.JoinedTies
import Derived.KernelRfl
namespace Go.Proofs.Qxb6613544a
/- THE CELL 'sum', in the pinned program and in every row, IS THE sha256 OF THE DUMP (.gsa) THAT Qxb6613544aProg.lean LOADS. Nothing in Lean hashes anything: it is a label: what it is worth is what the hold of that sum in a sandbox is worth. -/
noncomputable def Try.pinned : Pinned := { name := "qxb6613544a", sum := "62505750629a1a9364e6250132bd98325a3894b09673105d3e9664e937ace516", checked := Try.checked }
namespace Rows
def none {H : Type} : Left H := { results := [], args := [] }

/-- 'zzlaws_root_b1.FnJudgeOpenSettles': WHATEVER THE INPUT: true; the input reads as it did. -/
def fnJudgeOpenSettlesSpec : ChangeSpec := { name := "fnJudgeOpenSettles", fn := fun _ => fun
  | [d1, d2, d3, d4, d5, d6] => { results := [.lit (.bool true)], args := [d1, d2, d3, d4, d5, d6] }
  | _ => none }
def fnJudgeOpenSettlesRow : OpenClaim := { program := "qxb6613544a", sum := "62505750629a1a9364e6250132bd98325a3894b09673105d3e9664e937ace516", func := "example.com/ironlattice/ironlattice/zzlaws_root_b1.FnJudgeOpenSettles", spec := "fnJudgeOpenSettles", plainKeys := false, apart := false }
def FnJudgeOpenSettlesSaid : Prop := fnJudgeOpenSettlesRow.holds Try.pinned (OpenSpec.ofChange fnJudgeOpenSettlesSpec)

/-- ITS FALSE NEIGHBOUR: 'it returns false'. Refute it at one input. -/
def fnJudgeOpenSettlesWrong : ChangeSpec := { name := "fnJudgeOpenSettles", fn := fun _ => fun
  | [d1, d2, d3, d4, d5, d6] => { results := [.lit (.bool false)], args := [d1, d2, d3, d4, d5, d6] }
  | _ => none }
def FnJudgeOpenSettlesWrongFalsely : Prop := fnJudgeOpenSettlesRow.holds Try.pinned (OpenSpec.ofChange fnJudgeOpenSettlesWrong)

/-- 'zzlaws_root_b1.FnHasTellsOneDigitApart': WHATEVER THE INPUT: true; the input reads as it did. -/
def fnHasTellsOneDigitApartSpec : ChangeSpec := { name := "fnHasTellsOneDigitApart", fn := fun _ => fun
  | [d1, d2, d3, d4] => { results := [.lit (.bool true)], args := [d1, d2, d3, d4] }
  | _ => none }
def fnHasTellsOneDigitApartRow : OpenClaim := { program := "qxb6613544a", sum := "62505750629a1a9364e6250132bd98325a3894b09673105d3e9664e937ace516", func := "example.com/ironlattice/ironlattice/zzlaws_root_b1.FnHasTellsOneDigitApart", spec := "fnHasTellsOneDigitApart", plainKeys := false, apart := false }
def FnHasTellsOneDigitApartSaid : Prop := fnHasTellsOneDigitApartRow.holds Try.pinned (OpenSpec.ofChange fnHasTellsOneDigitApartSpec)

/-- ITS FALSE NEIGHBOUR: 'it returns false'. Refute it at one input. -/
def fnHasTellsOneDigitApartWrong : ChangeSpec := { name := "fnHasTellsOneDigitApart", fn := fun _ => fun
  | [d1, d2, d3, d4] => { results := [.lit (.bool false)], args := [d1, d2, d3, d4] }
  | _ => none }
def FnHasTellsOneDigitApartWrongFalsely : Prop := fnHasTellsOneDigitApartRow.holds Try.pinned (OpenSpec.ofChange fnHasTellsOneDigitApartWrong)

/-- 'zzlaws_root_b1.FnRedundancySettles': WHATEVER THE INPUT: true; the input reads as it did. -/
def fnRedundancySettlesSpec : ChangeSpec := { name := "fnRedundancySettles", fn := fun _ => fun
  | [d1, d2, d3, d4, d5, d6, d7, d8, d9, d10] => { results := [.lit (.bool true)], args := [d1, d2, d3, d4, d5, d6, d7, d8, d9, d10] }
  | _ => none }
def fnRedundancySettlesRow : OpenClaim := { program := "qxb6613544a", sum := "62505750629a1a9364e6250132bd98325a3894b09673105d3e9664e937ace516", func := "example.com/ironlattice/ironlattice/zzlaws_root_b1.FnRedundancySettles", spec := "fnRedundancySettles", plainKeys := false, apart := false }
def FnRedundancySettlesSaid : Prop := fnRedundancySettlesRow.holds Try.pinned (OpenSpec.ofChange fnRedundancySettlesSpec)

/-- ITS FALSE NEIGHBOUR: 'it returns false'. Refute it at one input. -/
def fnRedundancySettlesWrong : ChangeSpec := { name := "fnRedundancySettles", fn := fun _ => fun
  | [d1, d2, d3, d4, d5, d6, d7, d8, d9, d10] => { results := [.lit (.bool false)], args := [d1, d2, d3, d4, d5, d6, d7, d8, d9, d10] }
  | _ => none }
def FnRedundancySettlesWrongFalsely : Prop := fnRedundancySettlesRow.holds Try.pinned (OpenSpec.ofChange fnRedundancySettlesWrong)

/-- 'zzlaws_root_b1.FnRedundancyDefaultAndDistinct': WHATEVER THE INPUT: true; the input reads as it did. -/
def fnRedundancyDefaultAndDistinctSpec : ChangeSpec := { name := "fnRedundancyDefaultAndDistinct", fn := fun _ => fun
  | [d1, d2] => { results := [.lit (.bool true)], args := [d1, d2] }
  | _ => none }
def fnRedundancyDefaultAndDistinctRow : OpenClaim := { program := "qxb6613544a", sum := "62505750629a1a9364e6250132bd98325a3894b09673105d3e9664e937ace516", func := "example.com/ironlattice/ironlattice/zzlaws_root_b1.FnRedundancyDefaultAndDistinct", spec := "fnRedundancyDefaultAndDistinct", plainKeys := false, apart := false }
def FnRedundancyDefaultAndDistinctSaid : Prop := fnRedundancyDefaultAndDistinctRow.holds Try.pinned (OpenSpec.ofChange fnRedundancyDefaultAndDistinctSpec)

/-- ITS FALSE NEIGHBOUR: 'it returns false'. Refute it at one input. -/
def fnRedundancyDefaultAndDistinctWrong : ChangeSpec := { name := "fnRedundancyDefaultAndDistinct", fn := fun _ => fun
  | [d1, d2] => { results := [.lit (.bool false)], args := [d1, d2] }
  | _ => none }
def FnRedundancyDefaultAndDistinctWrongFalsely : Prop := fnRedundancyDefaultAndDistinctRow.holds Try.pinned (OpenSpec.ofChange fnRedundancyDefaultAndDistinctWrong)

end Rows
end Go.Proofs.Qxb6613544a
