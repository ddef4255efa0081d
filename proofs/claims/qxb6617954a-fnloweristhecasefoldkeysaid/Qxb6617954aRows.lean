/-
  No cell of these rows narrows 'for every input' (looked for: loops, veiled, ifaces, maps, wideKeys, modest, calm, conditions, laid).
  DERIVED. THE GIVEN ROWS OF THIS SEAT. 2 by the template 'for every input the law returns true; each argument reads behind the call as it read before'; 0 by the template 'total and deterministic' (their statements: Qxb6617954aTotals.lean).
  GIVEN WITH THE SEED: the statements are not yours to turn. If you find one false, say at which input.
  Laid BY PROGRAM, IN A SANDBOX (cutbox-rows.mjs): the forced cells as the released guide's own fill.sh prints them over the translation 99e3fd5be230939a… (all of the seat's roots in one cut). By AI agents, Wed Nov 11 2026. No macro, syntax, notation, axiom, sorry.
-/
import Derived.Test.Qxb6617954aChecked
import GoSem.Claim
import GoSem.ClaimJoined
import GoSem.ClaimMapViews
import Derived.JoinedTies
import Derived.KernelRfl
namespace Go.Proofs.Qxb6617954a
/- THE CELL 'sum', in the pinned program and in every row, IS THE sha256 OF THE DUMP (.gsa) THAT Qxb6617954aProg.lean LOADS. Nothing in Lean hashes anything: it is a label: what it is worth is what the hold of that sum in a sandbox is worth. -/
noncomputable def Try.pinned : Pinned := { name := "qxb6617954a", sum := "99e3fd5be230939a1a63af14a9610854c0ba3787b1fe3de834e7076aead2267b", checked := Try.checked }
namespace Rows
def none {H : Type} : Left H := { results := [], args := [] }

/-- 'zzlaws_dns_b1.FnLowerIsTheCaseFoldKey': WHATEVER THE INPUT: true; the input reads as it did. -/
def fnLowerIsTheCaseFoldKeySpec : ChangeSpec := { name := "fnLowerIsTheCaseFoldKey", fn := fun _ => fun
  | [d1, d2] => { results := [.lit (.bool true)], args := [d1, d2] }
  | _ => none }
def fnLowerIsTheCaseFoldKeyRow : OpenClaim := { program := "qxb6617954a", sum := "99e3fd5be230939a1a63af14a9610854c0ba3787b1fe3de834e7076aead2267b", func := "example.com/tunnelwright/tunnelwright/zzlaws_dns_b1.FnLowerIsTheCaseFoldKey", spec := "fnLowerIsTheCaseFoldKey", apart := false }
def FnLowerIsTheCaseFoldKeySaid : Prop := fnLowerIsTheCaseFoldKeyRow.holds Try.pinned (OpenSpec.ofChange fnLowerIsTheCaseFoldKeySpec)

/-- ITS FALSE NEIGHBOUR: 'it returns false'. Refute it at one input. -/
def fnLowerIsTheCaseFoldKeyWrong : ChangeSpec := { name := "fnLowerIsTheCaseFoldKey", fn := fun _ => fun
  | [d1, d2] => { results := [.lit (.bool false)], args := [d1, d2] }
  | _ => none }
def FnLowerIsTheCaseFoldKeyWrongFalsely : Prop := fnLowerIsTheCaseFoldKeyRow.holds Try.pinned (OpenSpec.ofChange fnLowerIsTheCaseFoldKeyWrong)

/-- 'zzlaws_dns_b1.FnLowerSplitsAtAnyCut': WHATEVER THE INPUT: true; the input reads as it did. -/
def fnLowerSplitsAtAnyCutSpec : ChangeSpec := { name := "fnLowerSplitsAtAnyCut", fn := fun _ => fun
  | [d1, d2] => { results := [.lit (.bool true)], args := [d1, d2] }
  | _ => none }
def fnLowerSplitsAtAnyCutRow : OpenClaim := { program := "qxb6617954a", sum := "99e3fd5be230939a1a63af14a9610854c0ba3787b1fe3de834e7076aead2267b", func := "example.com/tunnelwright/tunnelwright/zzlaws_dns_b1.FnLowerSplitsAtAnyCut", spec := "fnLowerSplitsAtAnyCut", apart := false }
def FnLowerSplitsAtAnyCutSaid : Prop := fnLowerSplitsAtAnyCutRow.holds Try.pinned (OpenSpec.ofChange fnLowerSplitsAtAnyCutSpec)

/-- ITS FALSE NEIGHBOUR: 'it returns false'. Refute it at one input. -/
def fnLowerSplitsAtAnyCutWrong : ChangeSpec := { name := "fnLowerSplitsAtAnyCut", fn := fun _ => fun
  | [d1, d2] => { results := [.lit (.bool false)], args := [d1, d2] }
  | _ => none }
def FnLowerSplitsAtAnyCutWrongFalsely : Prop := fnLowerSplitsAtAnyCutRow.holds Try.pinned (OpenSpec.ofChange fnLowerSplitsAtAnyCutWrong)

end Rows
end Go.Proofs.Qxb6617954a
