/-
  No cell of these rows narrows 'for every input' (looked for: loops, veiled, ifaces, maps, wideKeys, modest, calm, conditions, laid).
  DERIVED. THE GIVEN ROWS OF THIS SEAT. 4 by the template 'for every input the law returns true; each argument reads behind the call as it read before'; 0 by the template 'total and deterministic' (their statements: Qxb6617875aTotals.lean).
  GIVEN WITH THE SEED: the statements are not yours to turn. If you find one false, say at which input.
  Laid BY PROGRAM, IN A SANDBOX (cutbox-rows.mjs): the forced cells as the released guide's own fill.sh prints them over the translation 6666c1a9f67b198f… (all of the seat's roots in one cut). By AI agents, Wed Nov 11 2026. No macro, syntax, notation, axiom, sorry.
-/
import Derived.Test.Qxb6617875aChecked
import GoSem.Claim
import GoSem.ClaimJoined
import GoSem.ClaimMapViews
import Derived.JoinedTies
import Derived.KernelRfl
namespace Go.Proofs.Qxb6617875a
/- THE CELL 'sum', in the pinned program and in every row, IS THE sha256 OF THE DUMP (.gsa) THAT Qxb6617875aProg.lean LOADS. Nothing in Lean hashes anything: it is a label: what it is worth is what the hold of that sum in a sandbox is worth. -/
noncomputable def Try.pinned : Pinned := { name := "qxb6617875a", sum := "6666c1a9f67b198ff82a1114283d60c349518e341fbb07c30106e95effd13e96", checked := Try.checked }
namespace Rows
def none {H : Type} : Left H := { results := [], args := [] }

/-- 'zzlaws_pkg_plan_b1.FnLineEndsCutsDataIntoLines': WHATEVER THE INPUT: true; the input reads as it did. -/
def fnLineEndsCutsDataIntoLinesSpec : ChangeSpec := { name := "fnLineEndsCutsDataIntoLines", fn := fun _ => fun
  | [d] => { results := [.lit (.bool true)], args := [d] }
  | _ => none }
def fnLineEndsCutsDataIntoLinesRow : OpenClaim := { program := "qxb6617875a", sum := "6666c1a9f67b198ff82a1114283d60c349518e341fbb07c30106e95effd13e96", func := "example.com/vestline/vestline/zzlaws_pkg_plan_b1.FnLineEndsCutsDataIntoLines", spec := "fnLineEndsCutsDataIntoLines", apart := false }
def FnLineEndsCutsDataIntoLinesSaid : Prop := fnLineEndsCutsDataIntoLinesRow.holds Try.pinned (OpenSpec.ofChange fnLineEndsCutsDataIntoLinesSpec)

/-- ITS FALSE NEIGHBOUR: 'it returns false'. Refute it at one input. -/
def fnLineEndsCutsDataIntoLinesWrong : ChangeSpec := { name := "fnLineEndsCutsDataIntoLines", fn := fun _ => fun
  | [d] => { results := [.lit (.bool false)], args := [d] }
  | _ => none }
def FnLineEndsCutsDataIntoLinesWrongFalsely : Prop := fnLineEndsCutsDataIntoLinesRow.holds Try.pinned (OpenSpec.ofChange fnLineEndsCutsDataIntoLinesWrong)

/-- 'zzlaws_pkg_plan_b1.FnLineEndsOfJoinedTexts': WHATEVER THE INPUT: true; the input reads as it did. -/
def fnLineEndsOfJoinedTextsSpec : ChangeSpec := { name := "fnLineEndsOfJoinedTexts", fn := fun _ => fun
  | [d1, d2] => { results := [.lit (.bool true)], args := [d1, d2] }
  | _ => none }
def fnLineEndsOfJoinedTextsRow : OpenClaim := { program := "qxb6617875a", sum := "6666c1a9f67b198ff82a1114283d60c349518e341fbb07c30106e95effd13e96", func := "example.com/vestline/vestline/zzlaws_pkg_plan_b1.FnLineEndsOfJoinedTexts", spec := "fnLineEndsOfJoinedTexts", apart := false }
def FnLineEndsOfJoinedTextsSaid : Prop := fnLineEndsOfJoinedTextsRow.holds Try.pinned (OpenSpec.ofChange fnLineEndsOfJoinedTextsSpec)

/-- ITS FALSE NEIGHBOUR: 'it returns false'. Refute it at one input. -/
def fnLineEndsOfJoinedTextsWrong : ChangeSpec := { name := "fnLineEndsOfJoinedTexts", fn := fun _ => fun
  | [d1, d2] => { results := [.lit (.bool false)], args := [d1, d2] }
  | _ => none }
def FnLineEndsOfJoinedTextsWrongFalsely : Prop := fnLineEndsOfJoinedTextsRow.holds Try.pinned (OpenSpec.ofChange fnLineEndsOfJoinedTextsWrong)

/-- 'zzlaws_pkg_plan_b1.FnIndefiniteArticleByFirstLetter': WHATEVER THE INPUT: true; the input reads as it did. -/
def fnIndefiniteArticleByFirstLetterSpec : ChangeSpec := { name := "fnIndefiniteArticleByFirstLetter", fn := fun _ => fun
  | [d1, d2] => { results := [.lit (.bool true)], args := [d1, d2] }
  | _ => none }
def fnIndefiniteArticleByFirstLetterRow : OpenClaim := { program := "qxb6617875a", sum := "6666c1a9f67b198ff82a1114283d60c349518e341fbb07c30106e95effd13e96", func := "example.com/vestline/vestline/zzlaws_pkg_plan_b1.FnIndefiniteArticleByFirstLetter", spec := "fnIndefiniteArticleByFirstLetter", inPlace := ["internal/bytealg.IndexByteString", "internal/bytealg.IndexString"], named := ["internal/bytealg.MaxLen"], apart := false }
def FnIndefiniteArticleByFirstLetterSaid : Prop := fnIndefiniteArticleByFirstLetterRow.holds Try.pinned (OpenSpec.ofChange fnIndefiniteArticleByFirstLetterSpec)

/-- ITS FALSE NEIGHBOUR: 'it returns false'. Refute it at one input. -/
def fnIndefiniteArticleByFirstLetterWrong : ChangeSpec := { name := "fnIndefiniteArticleByFirstLetter", fn := fun _ => fun
  | [d1, d2] => { results := [.lit (.bool false)], args := [d1, d2] }
  | _ => none }
def FnIndefiniteArticleByFirstLetterWrongFalsely : Prop := fnIndefiniteArticleByFirstLetterRow.holds Try.pinned (OpenSpec.ofChange fnIndefiniteArticleByFirstLetterWrong)

/-- 'zzlaws_pkg_plan_b1.FnIndefiniteIgnoresCaseOfFirstLetter': WHATEVER THE INPUT: true; the input reads as it did. -/
def fnIndefiniteIgnoresCaseOfFirstLetterSpec : ChangeSpec := { name := "fnIndefiniteIgnoresCaseOfFirstLetter", fn := fun _ => fun
  | [d] => { results := [.lit (.bool true)], args := [d] }
  | _ => none }
def fnIndefiniteIgnoresCaseOfFirstLetterRow : OpenClaim := { program := "qxb6617875a", sum := "6666c1a9f67b198ff82a1114283d60c349518e341fbb07c30106e95effd13e96", func := "example.com/vestline/vestline/zzlaws_pkg_plan_b1.FnIndefiniteIgnoresCaseOfFirstLetter", spec := "fnIndefiniteIgnoresCaseOfFirstLetter", inPlace := ["internal/bytealg.IndexByteString", "internal/bytealg.IndexString"], named := ["internal/bytealg.MaxLen"], apart := false }
def FnIndefiniteIgnoresCaseOfFirstLetterSaid : Prop := fnIndefiniteIgnoresCaseOfFirstLetterRow.holds Try.pinned (OpenSpec.ofChange fnIndefiniteIgnoresCaseOfFirstLetterSpec)

/-- ITS FALSE NEIGHBOUR: 'it returns false'. Refute it at one input. -/
def fnIndefiniteIgnoresCaseOfFirstLetterWrong : ChangeSpec := { name := "fnIndefiniteIgnoresCaseOfFirstLetter", fn := fun _ => fun
  | [d] => { results := [.lit (.bool false)], args := [d] }
  | _ => none }
def FnIndefiniteIgnoresCaseOfFirstLetterWrongFalsely : Prop := fnIndefiniteIgnoresCaseOfFirstLetterRow.holds Try.pinned (OpenSpec.ofChange fnIndefiniteIgnoresCaseOfFirstLetterWrong)

end Rows
end Go.Proofs.Qxb6617875a
