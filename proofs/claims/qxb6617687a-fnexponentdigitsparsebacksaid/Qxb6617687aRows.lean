/-
  No cell of these rows narrows 'for every input' (looked for: loops, veiled, ifaces, maps, wideKeys, modest, calm, conditions, laid).
  DERIVED. THE GIVEN ROWS OF THIS SEAT. 1 by the template 'for every input the law returns true; each argument reads behind the call as it read before'; 0 by the template 'total and deterministic' (their statements: Qxb6617687aTotals.lean).
  GIVEN WITH THE SEED: the statements are not yours to turn. If you find one false, say at which input.
  Laid BY PROGRAM, IN A SANDBOX (cutbox-rows.mjs): the forced cells as the released guide's own fill.sh prints them over the translation 43f0dbb7e48532d2… (all of the seat's roots in one cut). By AI agents, Wed Nov 11 2026. No macro, syntax, notation, axiom, sorry.
-/
import Derived.Test.Qxb6617687aChecked
import GoSem.Claim
import GoSem.ClaimJoined
import GoSem.ClaimMapViews
import Derived.JoinedTies
import Derived.KernelRfl
namespace Go.Proofs.Qxb6617687a
/- THE CELL 'sum', in the pinned program and in every row, IS THE sha256 OF THE DUMP (.gsa) THAT Qxb6617687aProg.lean LOADS. Nothing in Lean hashes anything: it is a label: what it is worth is what the hold of that sum in a sandbox is worth. -/
noncomputable def Try.pinned : Pinned := { name := "qxb6617687a", sum := "43f0dbb7e48532d2d73c5efd86ab9525a51990de68fcd9e6499619f96f26bf0a", checked := Try.checked }
namespace Rows
def none {H : Type} : Left H := { results := [], args := [] }

/-- 'zzlaws_root_b1.FnExponentDigitsParseBack': WHATEVER THE INPUT: true; the input reads as it did. -/
def fnExponentDigitsParseBackSpec : ChangeSpec := { name := "fnExponentDigitsParseBack", fn := fun _ => fun
  | [] => { results := [.lit (.bool true)], args := [] }
  | _ => none }
def fnExponentDigitsParseBackRow : OpenClaim := { program := "qxb6617687a", sum := "43f0dbb7e48532d2d73c5efd86ab9525a51990de68fcd9e6499619f96f26bf0a", func := "example.com/trimfloat/trimfloat/zzlaws_root_b1.FnExponentDigitsParseBack", spec := "fnExponentDigitsParseBack", apart := false }
def FnExponentDigitsParseBackSaid : Prop := fnExponentDigitsParseBackRow.holds Try.pinned (OpenSpec.ofChange fnExponentDigitsParseBackSpec)

/-- ITS FALSE NEIGHBOUR: 'it returns false'. Refute it at one input. -/
def fnExponentDigitsParseBackWrong : ChangeSpec := { name := "fnExponentDigitsParseBack", fn := fun _ => fun
  | [] => { results := [.lit (.bool false)], args := [] }
  | _ => none }
def FnExponentDigitsParseBackWrongFalsely : Prop := fnExponentDigitsParseBackRow.holds Try.pinned (OpenSpec.ofChange fnExponentDigitsParseBackWrong)

end Rows
end Go.Proofs.Qxb6617687a
