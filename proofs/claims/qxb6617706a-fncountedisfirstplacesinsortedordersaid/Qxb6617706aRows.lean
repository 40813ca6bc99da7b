/-
  No cell of these rows narrows 'for every input' (looked for: loops, veiled, ifaces, maps, wideKeys, modest, calm, conditions, laid).
  DERIVED. THE GIVEN ROWS OF THIS SEAT. 1 by the template 'for every input the law returns true; each argument reads behind the call as it read before'; 0 by the template 'total and deterministic' (their statements: Qxb6617706aTotals.lean).
  GIVEN WITH THE SEED: the statements are not yours to turn. If you find one false, say at which input.
  Laid BY PROGRAM, IN A SANDBOX (cutbox-rows.mjs): the forced cells as the released guide's own fill.sh prints them over the translation 49ac679211609c5f… (all of the seat's roots in one cut). By AI agents, Wed Nov 11 2026. No macro, syntax, notation, axiom, sorry.
-/
import Derived.Test.Qxb6617706aChecked
import GoSem.Claim
import GoSem.ClaimJoined
import GoSem.ClaimMapViews
import Derived.JoinedTies
import Derived.KernelRfl
namespace Go.Proofs.Qxb6617706a
/- THE CELL 'sum', in the pinned program and in every row, IS THE sha256 OF THE DUMP (.gsa) THAT Qxb6617706aProg.lean LOADS. Nothing in Lean hashes anything: it is a label: what it is worth is what the hold of that sum in a sandbox is worth. -/
noncomputable def Try.pinned : Pinned := { name := "qxb6617706a", sum := "49ac679211609c5f7fbac537a8d746592d121349f2d0ee824079b17605146e06", checked := Try.checked }
namespace Rows
def none {H : Type} : Left H := { results := [], args := [] }

/-- 'zzlaws_internal_eval_b1.FnCountedIsFirstPlacesInSortedOrder': WHATEVER THE INPUT: true; the input reads as it did. -/
def fnCountedIsFirstPlacesInSortedOrderSpec : ChangeSpec := { name := "fnCountedIsFirstPlacesInSortedOrder", fn := fun _ => fun
  | [d] => { results := [.lit (.bool true)], args := [d] }
  | _ => none }
def fnCountedIsFirstPlacesInSortedOrderRow : OpenClaim := { program := "qxb6617706a", sum := "49ac679211609c5f7fbac537a8d746592d121349f2d0ee824079b17605146e06", func := "example.com/libtagauth/libtagauth/zzlaws_internal_eval_b1.FnCountedIsFirstPlacesInSortedOrder", spec := "fnCountedIsFirstPlacesInSortedOrder", apart := false }
def FnCountedIsFirstPlacesInSortedOrderSaid : Prop := fnCountedIsFirstPlacesInSortedOrderRow.holds Try.pinned (OpenSpec.ofChange fnCountedIsFirstPlacesInSortedOrderSpec)

/-- ITS FALSE NEIGHBOUR: 'it returns false'. Refute it at one input. -/
def fnCountedIsFirstPlacesInSortedOrderWrong : ChangeSpec := { name := "fnCountedIsFirstPlacesInSortedOrder", fn := fun _ => fun
  | [d] => { results := [.lit (.bool false)], args := [d] }
  | _ => none }
def FnCountedIsFirstPlacesInSortedOrderWrongFalsely : Prop := fnCountedIsFirstPlacesInSortedOrderRow.holds Try.pinned (OpenSpec.ofChange fnCountedIsFirstPlacesInSortedOrderWrong)

end Rows
end Go.Proofs.Qxb6617706a
