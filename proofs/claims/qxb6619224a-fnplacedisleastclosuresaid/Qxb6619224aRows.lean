/-
  No cell of these rows narrows 'for every input' (looked for: loops, veiled, ifaces, maps, wideKeys, modest, calm, conditions, laid).
  DERIVED. THE GIVEN ROWS OF THIS SEAT. 1 by the template 'for every input the law returns true; each argument reads behind the call as it read before'; 0 by the template 'total and deterministic' (their statements: Qxb6619224aTotals.lean).
  GIVEN WITH THE SEED: the statements are not yours to turn. If you find one false, say at which input.
  Laid BY PROGRAM, IN A SANDBOX (cutbox-rows.mjs): the forced cells as the released guide's own fill.sh prints them over the translation 1bec8d7ef065dd11… (all of the seat's roots in one cut). By AI agents, Wed Nov 11 2026. No macro, syntax, notation, axiom, sorry.
-/
import Derived.Test.Qxb6619224aChecked
import GoSem.Claim
import GoSem.ClaimJoined
import GoSem.ClaimMapViews
import Derived.JoinedTies
import Derived.KernelRfl
namespace Go.Proofs.Qxb6619224a
/- THE CELL 'sum', in the pinned program and in every row, IS THE sha256 OF THE DUMP (.gsa) THAT Qxb6619224aProg.lean LOADS. Nothing in Lean hashes anything: it is a label: what it is worth is what the hold of that sum in a sandbox is worth. -/
noncomputable def Try.pinned : Pinned := { name := "qxb6619224a", sum := "1bec8d7ef065dd118311d376fa35a5a260f81967517ea98346b3b8c6eeaaf8e2", checked := Try.checked }
namespace Rows
def none {H : Type} : Left H := { results := [], args := [] }

/-- 'zzlaws_internal_register_b1.FnPlacedIsLeastClosure': WHATEVER THE INPUT: true; the input reads as it did. -/
def fnPlacedIsLeastClosureSpec : ChangeSpec := { name := "fnPlacedIsLeastClosure", fn := fun _ => fun
  | [d1, d2, d3, d4, d5, d6, d7] => { results := [.lit (.bool true)], args := [d1, d2, d3, d4, d5, d6, d7] }
  | _ => none }
def fnPlacedIsLeastClosureRow : OpenClaim := { program := "qxb6619224a", sum := "1bec8d7ef065dd118311d376fa35a5a260f81967517ea98346b3b8c6eeaaf8e2", func := "example.com/linwatch/linwatch/zzlaws_internal_register_b1.FnPlacedIsLeastClosure", spec := "fnPlacedIsLeastClosure", unfollowed := true, recurses := true, apart := false }
def FnPlacedIsLeastClosureSaid : Prop := fnPlacedIsLeastClosureRow.holds Try.pinned (OpenSpec.ofChange fnPlacedIsLeastClosureSpec)

/-- ITS FALSE NEIGHBOUR: 'it returns false'. Refute it at one input. -/
def fnPlacedIsLeastClosureWrong : ChangeSpec := { name := "fnPlacedIsLeastClosure", fn := fun _ => fun
  | [d1, d2, d3, d4, d5, d6, d7] => { results := [.lit (.bool false)], args := [d1, d2, d3, d4, d5, d6, d7] }
  | _ => none }
def FnPlacedIsLeastClosureWrongFalsely : Prop := fnPlacedIsLeastClosureRow.holds Try.pinned (OpenSpec.ofChange fnPlacedIsLeastClosureWrong)

end Rows
end Go.Proofs.Qxb6619224a
