/-
  No cell of these rows narrows 'for every input' (looked for: loops, veiled, ifaces, maps, wideKeys, modest, calm, conditions, laid).
  DERIVED. THE GIVEN ROWS OF THIS SEAT. 3 by the template 'for every input the law returns true; each argument reads behind the call as it read before'; 0 by the template 'total and deterministic' (their statements: Qxb6616752aTotals.lean).
  GIVEN WITH THE SEED: the statements are not yours to turn. If you find one false, say at which input.
  Laid BY PROGRAM, IN A SANDBOX (cutbox-rows.mjs): the forced cells as the released guide's own fill.sh prints them over the translation af69f04e2a9e7617… (all of the seat's roots in one cut). By AI agents, Wed Nov 11 2026. No macro, syntax, notation, axiom, sorry.
-/
import Derived.Test.Qxb6616752aChecked
import GoSem.Claim
import GoSem.ClaimJoined
import GoSem.ClaimMapViews
import Derived.JoinedTies
import Derived.KernelRfl
namespace Go.Proofs.Qxb6616752a
/- THE CELL 'sum', in the pinned program and in every row, IS THE sha256 OF THE DUMP (.gsa) THAT Qxb6616752aProg.lean LOADS. Nothing in Lean hashes anything: it is a label: what it is worth is what the hold of that sum in a sandbox is worth. -/
noncomputable def Try.pinned : Pinned := { name := "qxb6616752a", sum := "af69f04e2a9e7617a3872ea76239db9babd2cfa91ed5ae04f416db5cbcb427cf", checked := Try.checked }
namespace Rows
def none {H : Type} : Left H := { results := [], args := [] }

/-- 'zzlaws_mgcp_b1.FnIsVersionJoin': WHATEVER THE INPUT: true; the input reads as it did. -/
def fnIsVersionJoinSpec : ChangeSpec := { name := "fnIsVersionJoin", fn := fun _ => fun
  | [d1, d2] => { results := [.lit (.bool true)], args := [d1, d2] }
  | _ => none }
def fnIsVersionJoinRow : OpenClaim := { program := "qxb6616752a", sum := "af69f04e2a9e7617a3872ea76239db9babd2cfa91ed5ae04f416db5cbcb427cf", func := "example.com/hookflash/hookflash/zzlaws_mgcp_b1.FnIsVersionJoin", spec := "fnIsVersionJoin", inPlace := ["internal/bytealg.IndexByteString", "internal/bytealg.IndexString"], named := ["internal/bytealg.MaxLen"], apart := false }
def FnIsVersionJoinSaid : Prop := fnIsVersionJoinRow.holds Try.pinned (OpenSpec.ofChange fnIsVersionJoinSpec)

/-- ITS FALSE NEIGHBOUR: 'it returns false'. Refute it at one input. -/
def fnIsVersionJoinWrong : ChangeSpec := { name := "fnIsVersionJoin", fn := fun _ => fun
  | [d1, d2] => { results := [.lit (.bool false)], args := [d1, d2] }
  | _ => none }
def FnIsVersionJoinWrongFalsely : Prop := fnIsVersionJoinRow.holds Try.pinned (OpenSpec.ofChange fnIsVersionJoinWrong)

/-- 'zzlaws_mgcp_b1.FnOpensLandsOnFirstNonBlank': WHATEVER THE INPUT: true; the input reads as it did. -/
def fnOpensLandsOnFirstNonBlankSpec : ChangeSpec := { name := "fnOpensLandsOnFirstNonBlank", fn := fun _ => fun
  | [d1, d2] => { results := [.lit (.bool true)], args := [d1, d2] }
  | _ => none }
def fnOpensLandsOnFirstNonBlankRow : OpenClaim := { program := "qxb6616752a", sum := "af69f04e2a9e7617a3872ea76239db9babd2cfa91ed5ae04f416db5cbcb427cf", func := "example.com/hookflash/hookflash/zzlaws_mgcp_b1.FnOpensLandsOnFirstNonBlank", spec := "fnOpensLandsOnFirstNonBlank", apart := false }
def FnOpensLandsOnFirstNonBlankSaid : Prop := fnOpensLandsOnFirstNonBlankRow.holds Try.pinned (OpenSpec.ofChange fnOpensLandsOnFirstNonBlankSpec)

/-- ITS FALSE NEIGHBOUR: 'it returns false'. Refute it at one input. -/
def fnOpensLandsOnFirstNonBlankWrong : ChangeSpec := { name := "fnOpensLandsOnFirstNonBlank", fn := fun _ => fun
  | [d1, d2] => { results := [.lit (.bool false)], args := [d1, d2] }
  | _ => none }
def FnOpensLandsOnFirstNonBlankWrongFalsely : Prop := fnOpensLandsOnFirstNonBlankRow.holds Try.pinned (OpenSpec.ofChange fnOpensLandsOnFirstNonBlankWrong)

/-- 'zzlaws_mgcp_b1.FnOpensShiftAndBlank': WHATEVER THE INPUT: true; the input reads as it did. -/
def fnOpensShiftAndBlankSpec : ChangeSpec := { name := "fnOpensShiftAndBlank", fn := fun _ => fun
  | [d1, d2, d3] => { results := [.lit (.bool true)], args := [d1, d2, d3] }
  | _ => none }
def fnOpensShiftAndBlankRow : OpenClaim := { program := "qxb6616752a", sum := "af69f04e2a9e7617a3872ea76239db9babd2cfa91ed5ae04f416db5cbcb427cf", func := "example.com/hookflash/hookflash/zzlaws_mgcp_b1.FnOpensShiftAndBlank", spec := "fnOpensShiftAndBlank", apart := false }
def FnOpensShiftAndBlankSaid : Prop := fnOpensShiftAndBlankRow.holds Try.pinned (OpenSpec.ofChange fnOpensShiftAndBlankSpec)

/-- ITS FALSE NEIGHBOUR: 'it returns false'. Refute it at one input. -/
def fnOpensShiftAndBlankWrong : ChangeSpec := { name := "fnOpensShiftAndBlank", fn := fun _ => fun
  | [d1, d2, d3] => { results := [.lit (.bool false)], args := [d1, d2, d3] }
  | _ => none }
def FnOpensShiftAndBlankWrongFalsely : Prop := fnOpensShiftAndBlankRow.holds Try.pinned (OpenSpec.ofChange fnOpensShiftAndBlankWrong)

end Rows
end Go.Proofs.Qxb6616752a
