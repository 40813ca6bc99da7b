/-
  No cell of these rows narrows 'for every input' (looked for: loops, veiled, ifaces, maps, wideKeys, modest, calm, conditions, laid).
  DERIVED. THE GIVEN ROWS OF THIS SEAT. 1 by the template 'for every input the law returns true; each argument reads behind the call as it read before'; 0 by the template 'total and deterministic' (their statements: Qxb6617166aTotals.lean).
  GIVEN WITH THE SEED: the statements are not yours to turn. If you find one false, say at which input.
  Laid BY PROGRAM, IN A SANDBOX (cutbox-rows.mjs): the forced cells as the released guide's own fill.sh prints them over the translation 3b2e92b762a56ade… (all of the seat's roots in one cut). By AI agents, Wed Nov 11 2026. No macro, syntax, notation, axiom, sorry.
-/
import Derived.Test.Qxb6617166aChecked
import GoSem.Claim
import GoSem.ClaimJoined
import GoSem.ClaimMapViews
import Derived.JoinedTies
import Derived.KernelRfl
namespace Go.Proofs.Qxb6617166a
/- THE CELL 'sum', in the pinned program and in every row, IS THE sha256 OF THE DUMP (.gsa) THAT Qxb6617166aProg.lean LOADS. Nothing in Lean hashes anything: it is a label: what it is worth is what the hold of that sum in a sandbox is worth. -/
noncomputable def Try.pinned : Pinned := { name := "qxb6617166a", sum := "3b2e92b762a56adee78a656901238526194c779827807f52062a9cf0429e165a", checked := Try.checked }
namespace Rows
def none {H : Type} : Left H := { results := [], args := [] }

/-- 'zzlaws_internal_jcs_b1.FnFirstUnitIsLeadingUnitOfUTF16': WHATEVER THE INPUT: true; the input reads as it did. -/
def fnFirstUnitIsLeadingUnitOfUTF16Spec : ChangeSpec := { name := "fnFirstUnitIsLeadingUnitOfUTF16", fn := fun _ => fun
  | [d] => { results := [.lit (.bool true)], args := [d] }
  | _ => none }
def fnFirstUnitIsLeadingUnitOfUTF16Row : OpenClaim := { program := "qxb6617166a", sum := "3b2e92b762a56adee78a656901238526194c779827807f52062a9cf0429e165a", func := "example.com/vouchsafe/vouchsafe/zzlaws_internal_jcs_b1.FnFirstUnitIsLeadingUnitOfUTF16", spec := "fnFirstUnitIsLeadingUnitOfUTF16", apart := false }
def FnFirstUnitIsLeadingUnitOfUTF16Said : Prop := fnFirstUnitIsLeadingUnitOfUTF16Row.holds Try.pinned (OpenSpec.ofChange fnFirstUnitIsLeadingUnitOfUTF16Spec)

/-- ITS FALSE NEIGHBOUR: 'it returns false'. Refute it at one input. -/
def fnFirstUnitIsLeadingUnitOfUTF16Wrong : ChangeSpec := { name := "fnFirstUnitIsLeadingUnitOfUTF16", fn := fun _ => fun
  | [d] => { results := [.lit (.bool false)], args := [d] }
  | _ => none }
def FnFirstUnitIsLeadingUnitOfUTF16WrongFalsely : Prop := fnFirstUnitIsLeadingUnitOfUTF16Row.holds Try.pinned (OpenSpec.ofChange fnFirstUnitIsLeadingUnitOfUTF16Wrong)

end Rows
end Go.Proofs.Qxb6617166a
