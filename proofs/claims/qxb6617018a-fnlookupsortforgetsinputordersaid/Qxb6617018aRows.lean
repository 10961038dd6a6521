/-
  No cell of these rows narrows 'for every input' (looked for: loops, veiled, ifaces, maps, wideKeys, modest, calm, conditions, laid).
  DERIVED. THE GIVEN ROWS OF THIS SEAT. 4 by the template 'for every input the law returns true; each argument reads behind the call as it read before'; 0 by the template 'total and deterministic' (their statements: Qxb6617018aTotals.lean).
  GIVEN WITH THE SEED: the statements are not yours to turn. If you find one false, say at which input.
  Laid BY PROGRAM, IN A SANDBOX (cutbox-rows.mjs): the forced cells as the released guide's own fill.sh prints them over the translation 0324b440f914e90e… (all of the seat's roots in one cut). By AI agents, Wed Nov 11 2026. No macro, syntax, notation, axiom, sorry.
-/
import Derived.Test.Qxb6617018aChecked
import GoSem.Claim
import GoSem.ClaimJoined
import GoSem.ClaimMapViews
import Derived.JoinedTies
import Derived.KernelRfl
namespace Go.Proofs.Qxb6617018a
/- THE CELL 'sum', in the pinned program and in every row, IS THE sha256 OF THE DUMP (.gsa) THAT Qxb6617018aProg.lean LOADS. Nothing in Lean hashes anything: it is a label: what it is worth is what the hold of that sum in a sandbox is worth. -/
noncomputable def Try.pinned : Pinned := { name := "qxb6617018a", sum := "0324b440f914e90edde80ea039b88c76d8a261860067dd228e7ba045efb080d2", checked := Try.checked }
namespace Rows
def none {H : Type} : Left H := { results := [], args := [] }

/-- 'zzlaws_root_b1.FnIDStringOrderAndReadBack': WHATEVER THE INPUT: true; the input reads as it did. -/
def fnIDStringOrderAndReadBackSpec : ChangeSpec := { name := "fnIDStringOrderAndReadBack", fn := fun _ => fun
  | [d1, d2] => { results := [.lit (.bool true)], args := [d1, d2] }
  | _ => none }
def fnIDStringOrderAndReadBackRow : OpenClaim := { program := "qxb6617018a", sum := "0324b440f914e90edde80ea039b88c76d8a261860067dd228e7ba045efb080d2", func := "example.com/xorweave/xorweave/zzlaws_root_b1.FnIDStringOrderAndReadBack", spec := "fnIDStringOrderAndReadBack", plainKeys := false, apart := false }
def FnIDStringOrderAndReadBackSaid : Prop := fnIDStringOrderAndReadBackRow.holds Try.pinned (OpenSpec.ofChange fnIDStringOrderAndReadBackSpec)

/-- ITS FALSE NEIGHBOUR: 'it returns false'. Refute it at one input. -/
def fnIDStringOrderAndReadBackWrong : ChangeSpec := { name := "fnIDStringOrderAndReadBack", fn := fun _ => fun
  | [d1, d2] => { results := [.lit (.bool false)], args := [d1, d2] }
  | _ => none }
def FnIDStringOrderAndReadBackWrongFalsely : Prop := fnIDStringOrderAndReadBackRow.holds Try.pinned (OpenSpec.ofChange fnIDStringOrderAndReadBackWrong)

/-- 'zzlaws_root_b1.FnIDStringSplice': WHATEVER THE INPUT: true; the input reads as it did. -/
def fnIDStringSpliceSpec : ChangeSpec := { name := "fnIDStringSplice", fn := fun _ => fun
  | [d1, d2, d3] => { results := [.lit (.bool true)], args := [d1, d2, d3] }
  | _ => none }
def fnIDStringSpliceRow : OpenClaim := { program := "qxb6617018a", sum := "0324b440f914e90edde80ea039b88c76d8a261860067dd228e7ba045efb080d2", func := "example.com/xorweave/xorweave/zzlaws_root_b1.FnIDStringSplice", spec := "fnIDStringSplice", plainKeys := false, apart := false }
def FnIDStringSpliceSaid : Prop := fnIDStringSpliceRow.holds Try.pinned (OpenSpec.ofChange fnIDStringSpliceSpec)

/-- ITS FALSE NEIGHBOUR: 'it returns false'. Refute it at one input. -/
def fnIDStringSpliceWrong : ChangeSpec := { name := "fnIDStringSplice", fn := fun _ => fun
  | [d1, d2, d3] => { results := [.lit (.bool false)], args := [d1, d2, d3] }
  | _ => none }
def FnIDStringSpliceWrongFalsely : Prop := fnIDStringSpliceRow.holds Try.pinned (OpenSpec.ofChange fnIDStringSpliceWrong)

/-- 'zzlaws_root_b1.FnLookupSortStableByKnownThenDistance': WHATEVER THE INPUT: true; the input reads as it did. -/
def fnLookupSortStableByKnownThenDistanceSpec : ChangeSpec := { name := "fnLookupSortStableByKnownThenDistance", fn := fun _ => fun
  | [d1, d2] => { results := [.lit (.bool true)], args := [d1, d2] }
  | _ => none }
def fnLookupSortStableByKnownThenDistanceRow : OpenClaim := { program := "qxb6617018a", sum := "0324b440f914e90edde80ea039b88c76d8a261860067dd228e7ba045efb080d2", func := "example.com/xorweave/xorweave/zzlaws_root_b1.FnLookupSortStableByKnownThenDistance", spec := "fnLookupSortStableByKnownThenDistance", inPlace := ["internal/bytealg.Compare", "internal/reflectlite.ValueOf", "internal/reflectlite.Swapper", "(internal/reflectlite.Value).Len"], unfollowed := true, recurses := true, plainKeys := false, apart := false }
def FnLookupSortStableByKnownThenDistanceSaid : Prop := fnLookupSortStableByKnownThenDistanceRow.holds Try.pinned (OpenSpec.ofChange fnLookupSortStableByKnownThenDistanceSpec)

/-- ITS FALSE NEIGHBOUR: 'it returns false'. Refute it at one input. -/
def fnLookupSortStableByKnownThenDistanceWrong : ChangeSpec := { name := "fnLookupSortStableByKnownThenDistance", fn := fun _ => fun
  | [d1, d2] => { results := [.lit (.bool false)], args := [d1, d2] }
  | _ => none }
def FnLookupSortStableByKnownThenDistanceWrongFalsely : Prop := fnLookupSortStableByKnownThenDistanceRow.holds Try.pinned (OpenSpec.ofChange fnLookupSortStableByKnownThenDistanceWrong)

/-- 'zzlaws_root_b1.FnLookupSortForgetsInputOrder': WHATEVER THE INPUT: true; the input reads as it did. -/
def fnLookupSortForgetsInputOrderSpec : ChangeSpec := { name := "fnLookupSortForgetsInputOrder", fn := fun _ => fun
  | [d1, d2] => { results := [.lit (.bool true)], args := [d1, d2] }
  | _ => none }
def fnLookupSortForgetsInputOrderRow : OpenClaim := { program := "qxb6617018a", sum := "0324b440f914e90edde80ea039b88c76d8a261860067dd228e7ba045efb080d2", func := "example.com/xorweave/xorweave/zzlaws_root_b1.FnLookupSortForgetsInputOrder", spec := "fnLookupSortForgetsInputOrder", inPlace := ["internal/bytealg.Compare", "internal/reflectlite.ValueOf", "internal/reflectlite.Swapper", "(internal/reflectlite.Value).Len"], unfollowed := true, recurses := true, plainKeys := false, apart := false }
def FnLookupSortForgetsInputOrderSaid : Prop := fnLookupSortForgetsInputOrderRow.holds Try.pinned (OpenSpec.ofChange fnLookupSortForgetsInputOrderSpec)

/-- ITS FALSE NEIGHBOUR: 'it returns false'. Refute it at one input. -/
def fnLookupSortForgetsInputOrderWrong : ChangeSpec := { name := "fnLookupSortForgetsInputOrder", fn := fun _ => fun
  | [d1, d2] => { results := [.lit (.bool false)], args := [d1, d2] }
  | _ => none }
def FnLookupSortForgetsInputOrderWrongFalsely : Prop := fnLookupSortForgetsInputOrderRow.holds Try.pinned (OpenSpec.ofChange fnLookupSortForgetsInputOrderWrong)

end Rows
end Go.Proofs.Qxb6617018a
