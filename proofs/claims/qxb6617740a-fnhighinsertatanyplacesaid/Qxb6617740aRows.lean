/-
  No cell of these rows narrows 'for every input' (looked for: loops, veiled, ifaces, maps, wideKeys, modest, calm, conditions, laid).
  DERIVED. THE GIVEN ROWS OF THIS SEAT. 2 by the template 'for every input the law returns true; each argument reads behind the call as it read before'; 0 by the template 'total and deterministic' (their statements: Qxb6617740aTotals.lean).
  GIVEN WITH THE SEED: the statements are not yours to turn. If you find one false, say at which input.
  Laid BY PROGRAM, IN A SANDBOX (cutbox-rows.mjs): the forced cells as the released guide's own fill.sh prints them over the translation 9bb175ef78bc14b8… (all of the seat's roots in one cut). By AI agents, Wed Nov 11 2026. No macro, syntax, notation, axiom, sorry.
-/
import Derived.Test.Qxb6617740aChecked
import GoSem.Claim
import GoSem.ClaimJoined
import GoSem.ClaimMapViews
import Derived.JoinedTies
import Derived.KernelRfl
namespace Go.Proofs.Qxb6617740a
/- THE CELL 'sum', in the pinned program and in every row, IS THE sha256 OF THE DUMP (.gsa) THAT Qxb6617740aProg.lean LOADS. Nothing in Lean hashes anything: it is a label: what it is worth is what the hold of that sum in a sandbox is worth. -/
noncomputable def Try.pinned : Pinned := { name := "qxb6617740a", sum := "9bb175ef78bc14b833cdba2c9acbda39dfb5e02f58b80b50623855b02e9c159a", checked := Try.checked }
namespace Rows
def none {H : Type} : Left H := { results := [], args := [] }

/-- 'zzlaws_internal_protocol_b1.FnHighIsMaxAndSplitsAtAnyCut': WHATEVER THE INPUT: true; the input reads as it did. -/
def fnHighIsMaxAndSplitsAtAnyCutSpec : ChangeSpec := { name := "fnHighIsMaxAndSplitsAtAnyCut", fn := fun _ => fun
  | [d1, d2, d3, d4] => { results := [.lit (.bool true)], args := [d1, d2, d3, d4] }
  | _ => none }
def fnHighIsMaxAndSplitsAtAnyCutRow : OpenClaim := { program := "qxb6617740a", sum := "9bb175ef78bc14b833cdba2c9acbda39dfb5e02f58b80b50623855b02e9c159a", func := "example.com/steadfast/steadfast/zzlaws_internal_protocol_b1.FnHighIsMaxAndSplitsAtAnyCut", spec := "fnHighIsMaxAndSplitsAtAnyCut", apart := false }
def FnHighIsMaxAndSplitsAtAnyCutSaid : Prop := fnHighIsMaxAndSplitsAtAnyCutRow.holds Try.pinned (OpenSpec.ofChange fnHighIsMaxAndSplitsAtAnyCutSpec)

/-- ITS FALSE NEIGHBOUR: 'it returns false'. Refute it at one input. -/
def fnHighIsMaxAndSplitsAtAnyCutWrong : ChangeSpec := { name := "fnHighIsMaxAndSplitsAtAnyCut", fn := fun _ => fun
  | [d1, d2, d3, d4] => { results := [.lit (.bool false)], args := [d1, d2, d3, d4] }
  | _ => none }
def FnHighIsMaxAndSplitsAtAnyCutWrongFalsely : Prop := fnHighIsMaxAndSplitsAtAnyCutRow.holds Try.pinned (OpenSpec.ofChange fnHighIsMaxAndSplitsAtAnyCutWrong)

/-- 'zzlaws_internal_protocol_b1.FnHighInsertAtAnyPlace': WHATEVER THE INPUT: true; the input reads as it did. -/
def fnHighInsertAtAnyPlaceSpec : ChangeSpec := { name := "fnHighInsertAtAnyPlace", fn := fun _ => fun
  | [d1, d2, d3, d4, d5, d6] => { results := [.lit (.bool true)], args := [d1, d2, d3, d4, d5, d6] }
  | _ => none }
def fnHighInsertAtAnyPlaceRow : OpenClaim := { program := "qxb6617740a", sum := "9bb175ef78bc14b833cdba2c9acbda39dfb5e02f58b80b50623855b02e9c159a", func := "example.com/steadfast/steadfast/zzlaws_internal_protocol_b1.FnHighInsertAtAnyPlace", spec := "fnHighInsertAtAnyPlace", apart := false }
def FnHighInsertAtAnyPlaceSaid : Prop := fnHighInsertAtAnyPlaceRow.holds Try.pinned (OpenSpec.ofChange fnHighInsertAtAnyPlaceSpec)

/-- ITS FALSE NEIGHBOUR: 'it returns false'. Refute it at one input. -/
def fnHighInsertAtAnyPlaceWrong : ChangeSpec := { name := "fnHighInsertAtAnyPlace", fn := fun _ => fun
  | [d1, d2, d3, d4, d5, d6] => { results := [.lit (.bool false)], args := [d1, d2, d3, d4, d5, d6] }
  | _ => none }
def FnHighInsertAtAnyPlaceWrongFalsely : Prop := fnHighInsertAtAnyPlaceRow.holds Try.pinned (OpenSpec.ofChange fnHighInsertAtAnyPlaceWrong)

end Rows
end Go.Proofs.Qxb6617740a
