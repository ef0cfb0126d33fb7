/-
  No cell of these rows narrows 'for every input' (looked for: loops, veiled, ifaces, maps, wideKeys, modest, calm, conditions, laid).
  DERIVED. THE GIVEN ROWS OF THIS SEAT. 2 by the template 'for every input the law returns true; each argument reads behind the call as it read before'; 0 by the template 'total and deterministic' (their statements: Qxb6603484aTotals.lean).
  GIVEN WITH THE SEED: the statements are not yours to turn. If you find one false, say at which input.
  Laid BY PROGRAM, IN A SANDBOX (cutbox-rows.mjs): the forced cells as the released guide's own fill.sh prints them over the translation f16f26b87689d5cc… (all of the seat's roots in one cut). By AI agents, Wed Nov 11 2026. No macro, syntax, notation, axiom, sorry.
-/
import Derived.Test.Qxb6603484aChecked
import GoSem.Claim
import GoSem.ClaimJoined
import GoSem.ClaimMapViews
import Derived.JoinedTies
import Derived.KernelRfl
namespace Go.Proofs.Qxb6603484a
/- THE CELL 'sum', in the pinned program and in every row, IS THE sha256 OF THE DUMP (.gsa) THAT Qxb6603484aProg.lean LOADS. Nothing in Lean hashes anything: it is a label: what it is worth is what the hold of that sum in a sandbox is worth. -/
noncomputable def Try.pinned : Pinned := { name := "qxb6603484a", sum := "f16f26b87689d5cc0a7ff34777e423e1ae3441bf651dc17d7d5f0efadd2826d9", checked := Try.checked }
namespace Rows
def none {H : Type} : Left H := { results := [], args := [] }

/-- 'zzlaws_pkg_calls_b1.FnReleaseTellsTheEndsApart': WHATEVER THE INPUT: true; the input reads as it did. -/
def fnReleaseTellsTheEndsApartSpec : ChangeSpec := { name := "fnReleaseTellsTheEndsApart", fn := fun _ => fun
  | [d1, d2] => { results := [.lit (.bool true)], args := [d1, d2] }
  | _ => none }
def fnReleaseTellsTheEndsApartRow : OpenClaim := { program := "qxb6603484a", sum := "f16f26b87689d5cc0a7ff34777e423e1ae3441bf651dc17d7d5f0efadd2826d9", func := "example.com/sevenspan/sevenspan/zzlaws_pkg_calls_b1.FnReleaseTellsTheEndsApart", spec := "fnReleaseTellsTheEndsApart", plainKeys := false, apart := false }
def FnReleaseTellsTheEndsApartSaid : Prop := fnReleaseTellsTheEndsApartRow.holds Try.pinned (OpenSpec.ofChange fnReleaseTellsTheEndsApartSpec)

/-- ITS FALSE NEIGHBOUR: 'it returns false'. Refute it at one input. -/
def fnReleaseTellsTheEndsApartWrong : ChangeSpec := { name := "fnReleaseTellsTheEndsApart", fn := fun _ => fun
  | [d1, d2] => { results := [.lit (.bool false)], args := [d1, d2] }
  | _ => none }
def FnReleaseTellsTheEndsApartWrongFalsely : Prop := fnReleaseTellsTheEndsApartRow.holds Try.pinned (OpenSpec.ofChange fnReleaseTellsTheEndsApartWrong)

/-- 'zzlaws_pkg_calls_b1.FnExpireInTwoStepsAsInOne': WHATEVER THE INPUT: true; the input reads as it did. -/
def fnExpireInTwoStepsAsInOneSpec : ChangeSpec := { name := "fnExpireInTwoStepsAsInOne", fn := fun _ => fun
  | [d1, d2, d3, d4] => { results := [.lit (.bool true)], args := [d1, d2, d3, d4] }
  | _ => none }
def fnExpireInTwoStepsAsInOneRow : OpenClaim := { program := "qxb6603484a", sum := "f16f26b87689d5cc0a7ff34777e423e1ae3441bf651dc17d7d5f0efadd2826d9", func := "example.com/sevenspan/sevenspan/zzlaws_pkg_calls_b1.FnExpireInTwoStepsAsInOne", spec := "fnExpireInTwoStepsAsInOne", inPlace := ["slices.overlaps[*example.com/sevenspan/sevenspan/pkg/calls.call]"], plainKeys := false, apart := false }
def FnExpireInTwoStepsAsInOneSaid : Prop := fnExpireInTwoStepsAsInOneRow.holds Try.pinned (OpenSpec.ofChange fnExpireInTwoStepsAsInOneSpec)

/-- ITS FALSE NEIGHBOUR: 'it returns false'. Refute it at one input. -/
def fnExpireInTwoStepsAsInOneWrong : ChangeSpec := { name := "fnExpireInTwoStepsAsInOne", fn := fun _ => fun
  | [d1, d2, d3, d4] => { results := [.lit (.bool false)], args := [d1, d2, d3, d4] }
  | _ => none }
def FnExpireInTwoStepsAsInOneWrongFalsely : Prop := fnExpireInTwoStepsAsInOneRow.holds Try.pinned (OpenSpec.ofChange fnExpireInTwoStepsAsInOneWrong)

end Rows
end Go.Proofs.Qxb6603484a
