/-
  No cell of these rows narrows 'for every input' (looked for: loops, veiled, ifaces, maps, wideKeys, modest, calm, conditions, laid).
  DERIVED. THE GIVEN ROWS OF THIS SEAT. 4 by the template 'for every input the law returns true; each argument reads behind the call as it read before'; 0 by the template 'total and deterministic' (their statements: Qxb6617881aTotals.lean).
  GIVEN WITH THE SEED: the statements are not yours to turn. If you find one false, say at which input.
  Laid BY PROGRAM, IN A SANDBOX (cutbox-rows.mjs): the forced cells as the released guide's own fill.sh prints them over the translation 10a2299597405bb3… (all of the seat's roots in one cut). By AI agents, Wed Nov 11 2026. No macro, syntax, notation, axiom, sorry.
-/
import Derived.Test.Qxb6617881aChecked
import GoSem.Claim
import GoSem.ClaimJoined
import GoSem.ClaimMapViews
import Derived.JoinedTies
import Derived.KernelRfl
namespace Go.Proofs.Qxb6617881a
/- THE CELL 'sum', in the pinned program and in every row, IS THE sha256 OF THE DUMP (.gsa) THAT Qxb6617881aProg.lean LOADS. Nothing in Lean hashes anything: it is a label: what it is worth is what the hold of that sum in a sandbox is worth. -/
noncomputable def Try.pinned : Pinned := { name := "qxb6617881a", sum := "10a2299597405bb369288962675c5b30d2c565086b0c3c7be7ce4e2b7fbf4fad", checked := Try.checked }
namespace Rows
def none {H : Type} : Left H := { results := [], args := [] }

/-- 'zzlaws_root_b1.FnIsJSONNameMatchesSplitModel': WHATEVER THE INPUT: true; the input reads as it did. -/
def fnIsJSONNameMatchesSplitModelSpec : ChangeSpec := { name := "fnIsJSONNameMatchesSplitModel", fn := fun _ => fun
  | [d1, d2] => { results := [.lit (.bool true)], args := [d1, d2] }
  | _ => none }
def fnIsJSONNameMatchesSplitModelRow : OpenClaim := { program := "qxb6617881a", sum := "10a2299597405bb369288962675c5b30d2c565086b0c3c7be7ce4e2b7fbf4fad", func := "example.com/faultline/faultline/zzlaws_root_b1.FnIsJSONNameMatchesSplitModel", spec := "fnIsJSONNameMatchesSplitModel", apart := false }
def FnIsJSONNameMatchesSplitModelSaid : Prop := fnIsJSONNameMatchesSplitModelRow.holds Try.pinned (OpenSpec.ofChange fnIsJSONNameMatchesSplitModelSpec)

/-- ITS FALSE NEIGHBOUR: 'it returns false'. Refute it at one input. -/
def fnIsJSONNameMatchesSplitModelWrong : ChangeSpec := { name := "fnIsJSONNameMatchesSplitModel", fn := fun _ => fun
  | [d1, d2] => { results := [.lit (.bool false)], args := [d1, d2] }
  | _ => none }
def FnIsJSONNameMatchesSplitModelWrongFalsely : Prop := fnIsJSONNameMatchesSplitModelRow.holds Try.pinned (OpenSpec.ofChange fnIsJSONNameMatchesSplitModelWrong)

/-- 'zzlaws_root_b1.FnIsJSONNameUnderscoreCapitalises': WHATEVER THE INPUT: true; the input reads as it did. -/
def fnIsJSONNameUnderscoreCapitalisesSpec : ChangeSpec := { name := "fnIsJSONNameUnderscoreCapitalises", fn := fun _ => fun
  | [d1, d2, d3] => { results := [.lit (.bool true)], args := [d1, d2, d3] }
  | _ => none }
def fnIsJSONNameUnderscoreCapitalisesRow : OpenClaim := { program := "qxb6617881a", sum := "10a2299597405bb369288962675c5b30d2c565086b0c3c7be7ce4e2b7fbf4fad", func := "example.com/faultline/faultline/zzlaws_root_b1.FnIsJSONNameUnderscoreCapitalises", spec := "fnIsJSONNameUnderscoreCapitalises", apart := false }
def FnIsJSONNameUnderscoreCapitalisesSaid : Prop := fnIsJSONNameUnderscoreCapitalisesRow.holds Try.pinned (OpenSpec.ofChange fnIsJSONNameUnderscoreCapitalisesSpec)

/-- ITS FALSE NEIGHBOUR: 'it returns false'. Refute it at one input. -/
def fnIsJSONNameUnderscoreCapitalisesWrong : ChangeSpec := { name := "fnIsJSONNameUnderscoreCapitalises", fn := fun _ => fun
  | [d1, d2, d3] => { results := [.lit (.bool false)], args := [d1, d2, d3] }
  | _ => none }
def FnIsJSONNameUnderscoreCapitalisesWrongFalsely : Prop := fnIsJSONNameUnderscoreCapitalisesRow.holds Try.pinned (OpenSpec.ofChange fnIsJSONNameUnderscoreCapitalisesWrong)

/-- 'zzlaws_root_b1.FnIsDigitsCutsAndInsertions': WHATEVER THE INPUT: true; the input reads as it did. -/
def fnIsDigitsCutsAndInsertionsSpec : ChangeSpec := { name := "fnIsDigitsCutsAndInsertions", fn := fun _ => fun
  | [d1, d2, d3] => { results := [.lit (.bool true)], args := [d1, d2, d3] }
  | _ => none }
def fnIsDigitsCutsAndInsertionsRow : OpenClaim := { program := "qxb6617881a", sum := "10a2299597405bb369288962675c5b30d2c565086b0c3c7be7ce4e2b7fbf4fad", func := "example.com/faultline/faultline/zzlaws_root_b1.FnIsDigitsCutsAndInsertions", spec := "fnIsDigitsCutsAndInsertions", apart := false }
def FnIsDigitsCutsAndInsertionsSaid : Prop := fnIsDigitsCutsAndInsertionsRow.holds Try.pinned (OpenSpec.ofChange fnIsDigitsCutsAndInsertionsSpec)

/-- ITS FALSE NEIGHBOUR: 'it returns false'. Refute it at one input. -/
def fnIsDigitsCutsAndInsertionsWrong : ChangeSpec := { name := "fnIsDigitsCutsAndInsertions", fn := fun _ => fun
  | [d1, d2, d3] => { results := [.lit (.bool false)], args := [d1, d2, d3] }
  | _ => none }
def FnIsDigitsCutsAndInsertionsWrongFalsely : Prop := fnIsDigitsCutsAndInsertionsRow.holds Try.pinned (OpenSpec.ofChange fnIsDigitsCutsAndInsertionsWrong)

/-- 'zzlaws_root_b1.FnAppendNameBuildsObject': WHATEVER THE INPUT: true; the input reads as it did. -/
def fnAppendNameBuildsObjectSpec : ChangeSpec := { name := "fnAppendNameBuildsObject", fn := fun _ => fun
  | [d1, d2] => { results := [.lit (.bool true)], args := [d1, d2] }
  | _ => none }
def fnAppendNameBuildsObjectRow : OpenClaim := { program := "qxb6617881a", sum := "10a2299597405bb369288962675c5b30d2c565086b0c3c7be7ce4e2b7fbf4fad", func := "example.com/faultline/faultline/zzlaws_root_b1.FnAppendNameBuildsObject", spec := "fnAppendNameBuildsObject", apart := false }
def FnAppendNameBuildsObjectSaid : Prop := fnAppendNameBuildsObjectRow.holds Try.pinned (OpenSpec.ofChange fnAppendNameBuildsObjectSpec)

/-- ITS FALSE NEIGHBOUR: 'it returns false'. Refute it at one input. -/
def fnAppendNameBuildsObjectWrong : ChangeSpec := { name := "fnAppendNameBuildsObject", fn := fun _ => fun
  | [d1, d2] => { results := [.lit (.bool false)], args := [d1, d2] }
  | _ => none }
def FnAppendNameBuildsObjectWrongFalsely : Prop := fnAppendNameBuildsObjectRow.holds Try.pinned (OpenSpec.ofChange fnAppendNameBuildsObjectWrong)

end Rows
end Go.Proofs.Qxb6617881a
