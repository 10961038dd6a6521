/-
  NARROWER THAN 'FOR EVERY INPUT', by the rows' own cells (each row's printed sentence says how): FnAmountStringParsesBack: ifaces, laid · FnUSDMarshalTextUnmarshalsBack: ifaces, laid · FnScannedTextPassesTextThrough: ifaces, laid.
  DERIVED. THE GIVEN ROWS OF THIS SEAT. 5 by the template 'for every input the law returns true; each argument reads behind the call as it read before'; 0 by the template 'total and deterministic' (their statements: Qxb6616958aFmtTotals.lean).
  GIVEN WITH THE SEED: the statements are not yours to turn. If you find one false, say at which input.
  Laid BY PROGRAM, IN A SANDBOX (cutbox-rows.mjs): the forced cells as the released guide's own fill.sh prints them over the translation 51a85f63f7a936c9… (all of the seat's roots in one cut). By AI agents, Wed Nov 11 2026. No macro, syntax, notation, axiom, sorry.
-/
import Derived.Test.Qxb6616958aFmtChecked
import GoSem.PinnedTables
import GoSem.Claim
import GoSem.ClaimJoined
import GoSem.ClaimMapViews
import Derived.JoinedTies
import Derived.KernelRfl
namespace Go.Proofs.Qxb6616958aFmt
/- THE CELL 'sum', in the pinned program and in every row, IS THE sha256 OF THE DUMP (.gsa) THAT Qxb6616958aFmtProg.lean LOADS. Nothing in Lean hashes anything: it is a label: what it is worth is what the hold of that sum in a sandbox is worth. -/
noncomputable def Tryf.pinned : Pinned := { name := "qxb6616958afmt", sum := "51a85f63f7a936c9f82d6b90f414095235a82bca1d432b62ce09e088559655f6", checked := Tryf.checked }
namespace Rows
def none {H : Type} : Left H := { results := [], args := [] }

/- WHAT THE LISTED PACKAGE-LEVEL VARIABLES READ AS WHEN THE CALL BEGINS. Each datum BY PROGRAM (the guide's laid-datum.mjs) off the statement by which the dump's own 'gosem.cut.vars' lays the variable. In a bare row this is a premise. The card (Qxb6616958aFmtCards.lean) ties it to the program's text. -/
def laid_unicode_utf8_acceptRanges {H : Type} : DataW H := .agg [.agg [.lit (.int .u8 128), .lit (.int .u8 191)], .agg [.lit (.int .u8 160), .lit (.int .u8 191)], .agg [.lit (.int .u8 128), .lit (.int .u8 159)], .agg [.lit (.int .u8 144), .lit (.int .u8 191)], .agg [.lit (.int .u8 128), .lit (.int .u8 143)], .agg [.lit (.int .u8 0), .lit (.int .u8 0)], .agg [.lit (.int .u8 0), .lit (.int .u8 0)], .agg [.lit (.int .u8 0), .lit (.int .u8 0)], .agg [.lit (.int .u8 0), .lit (.int .u8 0)], .agg [.lit (.int .u8 0), .lit (.int .u8 0)], .agg [.lit (.int .u8 0), .lit (.int .u8 0)], .agg [.lit (.int .u8 0), .lit (.int .u8 0)], .agg [.lit (.int .u8 0), .lit (.int .u8 0)], .agg [.lit (.int .u8 0), .lit (.int .u8 0)], .agg [.lit (.int .u8 0), .lit (.int .u8 0)], .agg [.lit (.int .u8 0), .lit (.int .u8 0)]]
def laid_example_com_stablecoin_checkout_stablecoin_checkout_money_ErrSyntax {H : Type} : DataW H := .iface "*errors.errorString" (.ptr (.agg [.lit (.string [109, 97, 108, 102, 111, 114, 109, 101, 100, 32, 97, 109, 111, 117, 110, 116])]))
def laid_example_com_stablecoin_checkout_stablecoin_checkout_money_ErrRange {H : Type} : DataW H := .iface "*errors.errorString" (.ptr (.agg [.lit (.string [97, 109, 111, 117, 110, 116, 32, 111, 117, 116, 32, 111, 102, 32, 114, 97, 110, 103, 101])]))
/-- One of Go's own tables, pinned by name: the form's constant. -/
def laid_unicode_utf8_first : DataW Unit := Go.Pinned.utf8First

/-- 'zzlaws_money_b1.FnAmountStringParsesBack': WHATEVER THE INPUT: true; the input reads as it did. -/
def fnAmountStringParsesBackSpec : ChangeSpec := { name := "fnAmountStringParsesBack", vars := ["example.com/stablecoin-checkout/stablecoin-checkout/money.ErrSyntax", "example.com/stablecoin-checkout/stablecoin-checkout/money.ErrRange"], fn := fun _ => fun
  | [d, g1, g2] => { results := [.lit (.bool true)], args := [d], vars := [g1, g2] }
  | _ => none }
def fnAmountStringParsesBackRow : OpenClaim := { program := "qxb6616958afmt", sum := "51a85f63f7a936c9f82d6b90f414095235a82bca1d432b62ce09e088559655f6", func := "example.com/stablecoin-checkout/stablecoin-checkout/zzlaws_money_b1.FnAmountStringParsesBack", spec := "fnAmountStringParsesBack", stops := ["fmt.Sprintf", "fmt.errorf, its operands' methods called"], inPlace := ["fmt.Sprintf", "internal/bytealg.IndexByteString", "internal/bytealg.IndexString", "fmt.errorf"], unfollowed := true, recurses := true, named := ["example.com/stablecoin-checkout/stablecoin-checkout/money.ErrSyntax", "example.com/stablecoin-checkout/stablecoin-checkout/money.ErrRange", "internal/bytealg.MaxLen", "unicode/utf8.first", "unicode/utf8.acceptRanges"], ifaces := true, apart := false, laid := [("unicode/utf8.acceptRanges", laid_unicode_utf8_acceptRanges), ("example.com/stablecoin-checkout/stablecoin-checkout/money.ErrSyntax", laid_example_com_stablecoin_checkout_stablecoin_checkout_money_ErrSyntax), ("example.com/stablecoin-checkout/stablecoin-checkout/money.ErrRange", laid_example_com_stablecoin_checkout_stablecoin_checkout_money_ErrRange), ("unicode/utf8.first", laid_unicode_utf8_first)] }
/-- NO THEOREM (fmt's text is open here; it may be false): for the released tool's asking of the row's closed facts alone. THE STATEMENT IS 'FnAmountStringParsesBackToldSaid' (Qxb6616958aFmtCards.lean). -/
def FnAmountStringParsesBackFormAsk : Prop := fnAmountStringParsesBackRow.holds Tryf.pinned (OpenSpec.ofChange fnAmountStringParsesBackSpec)

/-- ITS FALSE NEIGHBOUR: 'it returns false'. Refute it at one input. -/
def fnAmountStringParsesBackWrong : ChangeSpec := { name := "fnAmountStringParsesBack", vars := ["example.com/stablecoin-checkout/stablecoin-checkout/money.ErrSyntax", "example.com/stablecoin-checkout/stablecoin-checkout/money.ErrRange"], fn := fun _ => fun
  | [d, g1, g2] => { results := [.lit (.bool false)], args := [d], vars := [g1, g2] }
  | _ => none }
def FnAmountStringParsesBackWrongFormAsk : Prop := fnAmountStringParsesBackRow.holds Tryf.pinned (OpenSpec.ofChange fnAmountStringParsesBackWrong)

/-- 'zzlaws_money_b1.FnAmountStringKeepsOrder': WHATEVER THE INPUT: true; the input reads as it did. -/
def fnAmountStringKeepsOrderSpec : ChangeSpec := { name := "fnAmountStringKeepsOrder", fn := fun _ => fun
  | [d1, d2] => { results := [.lit (.bool true)], args := [d1, d2] }
  | _ => none }
def fnAmountStringKeepsOrderRow : OpenClaim := { program := "qxb6616958afmt", sum := "51a85f63f7a936c9f82d6b90f414095235a82bca1d432b62ce09e088559655f6", func := "example.com/stablecoin-checkout/stablecoin-checkout/zzlaws_money_b1.FnAmountStringKeepsOrder", spec := "fnAmountStringKeepsOrder", stops := ["fmt.Sprintf", "fmt.errorf, its operands' methods called"], inPlace := ["fmt.Sprintf"], apart := false }
/-- NO THEOREM (fmt's text is open here; it may be false): for the released tool's asking of the row's closed facts alone. THE STATEMENT IS 'FnAmountStringKeepsOrderToldSaid' (Qxb6616958aFmtCards.lean). -/
def FnAmountStringKeepsOrderFormAsk : Prop := fnAmountStringKeepsOrderRow.holds Tryf.pinned (OpenSpec.ofChange fnAmountStringKeepsOrderSpec)

/-- ITS FALSE NEIGHBOUR: 'it returns false'. Refute it at one input. -/
def fnAmountStringKeepsOrderWrong : ChangeSpec := { name := "fnAmountStringKeepsOrder", fn := fun _ => fun
  | [d1, d2] => { results := [.lit (.bool false)], args := [d1, d2] }
  | _ => none }
def FnAmountStringKeepsOrderWrongFormAsk : Prop := fnAmountStringKeepsOrderRow.holds Tryf.pinned (OpenSpec.ofChange fnAmountStringKeepsOrderWrong)

/-- 'zzlaws_money_b1.FnUSDMarshalTextUnmarshalsBack': WHATEVER THE INPUT: true; the input reads as it did. -/
def fnUSDMarshalTextUnmarshalsBackSpec : ChangeSpec := { name := "fnUSDMarshalTextUnmarshalsBack", vars := ["example.com/stablecoin-checkout/stablecoin-checkout/money.ErrSyntax", "example.com/stablecoin-checkout/stablecoin-checkout/money.ErrRange"], fn := fun _ => fun
  | [d, g1, g2] => { results := [.lit (.bool true)], args := [d], vars := [g1, g2] }
  | _ => none }
def fnUSDMarshalTextUnmarshalsBackRow : OpenClaim := { program := "qxb6616958afmt", sum := "51a85f63f7a936c9f82d6b90f414095235a82bca1d432b62ce09e088559655f6", func := "example.com/stablecoin-checkout/stablecoin-checkout/zzlaws_money_b1.FnUSDMarshalTextUnmarshalsBack", spec := "fnUSDMarshalTextUnmarshalsBack", stops := ["fmt.Sprintf", "fmt.errorf, its operands' methods called"], inPlace := ["fmt.Sprintf", "internal/bytealg.IndexByteString", "internal/bytealg.IndexString", "fmt.errorf"], unfollowed := true, recurses := true, named := ["example.com/stablecoin-checkout/stablecoin-checkout/money.ErrSyntax", "example.com/stablecoin-checkout/stablecoin-checkout/money.ErrRange", "internal/bytealg.MaxLen", "unicode/utf8.first", "unicode/utf8.acceptRanges"], ifaces := true, apart := false, laid := [("unicode/utf8.acceptRanges", laid_unicode_utf8_acceptRanges), ("example.com/stablecoin-checkout/stablecoin-checkout/money.ErrSyntax", laid_example_com_stablecoin_checkout_stablecoin_checkout_money_ErrSyntax), ("example.com/stablecoin-checkout/stablecoin-checkout/money.ErrRange", laid_example_com_stablecoin_checkout_stablecoin_checkout_money_ErrRange), ("unicode/utf8.first", laid_unicode_utf8_first)] }
/-- NO THEOREM (fmt's text is open here; it may be false): for the released tool's asking of the row's closed facts alone. THE STATEMENT IS 'FnUSDMarshalTextUnmarshalsBackToldSaid' (Qxb6616958aFmtCards.lean). -/
def FnUSDMarshalTextUnmarshalsBackFormAsk : Prop := fnUSDMarshalTextUnmarshalsBackRow.holds Tryf.pinned (OpenSpec.ofChange fnUSDMarshalTextUnmarshalsBackSpec)

/-- ITS FALSE NEIGHBOUR: 'it returns false'. Refute it at one input. -/
def fnUSDMarshalTextUnmarshalsBackWrong : ChangeSpec := { name := "fnUSDMarshalTextUnmarshalsBack", vars := ["example.com/stablecoin-checkout/stablecoin-checkout/money.ErrSyntax", "example.com/stablecoin-checkout/stablecoin-checkout/money.ErrRange"], fn := fun _ => fun
  | [d, g1, g2] => { results := [.lit (.bool false)], args := [d], vars := [g1, g2] }
  | _ => none }
def FnUSDMarshalTextUnmarshalsBackWrongFormAsk : Prop := fnUSDMarshalTextUnmarshalsBackRow.holds Tryf.pinned (OpenSpec.ofChange fnUSDMarshalTextUnmarshalsBackWrong)

/-- 'zzlaws_money_b1.FnUSDMarshalTextMatchesAmount': WHATEVER THE INPUT: true; the input reads as it did. -/
def fnUSDMarshalTextMatchesAmountSpec : ChangeSpec := { name := "fnUSDMarshalTextMatchesAmount", fn := fun _ => fun
  | [d] => { results := [.lit (.bool true)], args := [d] }
  | _ => none }
def fnUSDMarshalTextMatchesAmountRow : OpenClaim := { program := "qxb6616958afmt", sum := "51a85f63f7a936c9f82d6b90f414095235a82bca1d432b62ce09e088559655f6", func := "example.com/stablecoin-checkout/stablecoin-checkout/zzlaws_money_b1.FnUSDMarshalTextMatchesAmount", spec := "fnUSDMarshalTextMatchesAmount", stops := ["fmt.Sprintf", "fmt.errorf, its operands' methods called"], inPlace := ["fmt.Sprintf"], apart := false }
/-- NO THEOREM (fmt's text is open here; it may be false): for the released tool's asking of the row's closed facts alone. THE STATEMENT IS 'FnUSDMarshalTextMatchesAmountToldSaid' (Qxb6616958aFmtCards.lean). -/
def FnUSDMarshalTextMatchesAmountFormAsk : Prop := fnUSDMarshalTextMatchesAmountRow.holds Tryf.pinned (OpenSpec.ofChange fnUSDMarshalTextMatchesAmountSpec)

/-- ITS FALSE NEIGHBOUR: 'it returns false'. Refute it at one input. -/
def fnUSDMarshalTextMatchesAmountWrong : ChangeSpec := { name := "fnUSDMarshalTextMatchesAmount", fn := fun _ => fun
  | [d] => { results := [.lit (.bool false)], args := [d] }
  | _ => none }
def FnUSDMarshalTextMatchesAmountWrongFormAsk : Prop := fnUSDMarshalTextMatchesAmountRow.holds Tryf.pinned (OpenSpec.ofChange fnUSDMarshalTextMatchesAmountWrong)

/-- 'zzlaws_money_b1.FnScannedTextPassesTextThrough': WHATEVER THE INPUT: true; the input reads as it did. -/
def fnScannedTextPassesTextThroughSpec : ChangeSpec := { name := "fnScannedTextPassesTextThrough", vars := ["example.com/stablecoin-checkout/stablecoin-checkout/money.ErrSyntax"], fn := fun _ => fun
  | [d, g1] => { results := [.lit (.bool true)], args := [d], vars := [g1] }
  | _ => none }
def fnScannedTextPassesTextThroughRow : OpenClaim := { program := "qxb6616958afmt", sum := "51a85f63f7a936c9f82d6b90f414095235a82bca1d432b62ce09e088559655f6", func := "example.com/stablecoin-checkout/stablecoin-checkout/zzlaws_money_b1.FnScannedTextPassesTextThrough", spec := "fnScannedTextPassesTextThrough", stops := ["fmt.Sprintf", "fmt.errorf, its operands' methods called"], inPlace := ["fmt.errorf"], unfollowed := true, recurses := true, named := ["example.com/stablecoin-checkout/stablecoin-checkout/money.ErrSyntax"], ifaces := true, apart := false, laid := [("example.com/stablecoin-checkout/stablecoin-checkout/money.ErrSyntax", laid_example_com_stablecoin_checkout_stablecoin_checkout_money_ErrSyntax)] }
/-- NO THEOREM (fmt's text is open here; it may be false): for the released tool's asking of the row's closed facts alone. THE STATEMENT IS 'FnScannedTextPassesTextThroughToldSaid' (Qxb6616958aFmtCards.lean). -/
def FnScannedTextPassesTextThroughFormAsk : Prop := fnScannedTextPassesTextThroughRow.holds Tryf.pinned (OpenSpec.ofChange fnScannedTextPassesTextThroughSpec)

/-- ITS FALSE NEIGHBOUR: 'it returns false'. Refute it at one input. -/
def fnScannedTextPassesTextThroughWrong : ChangeSpec := { name := "fnScannedTextPassesTextThrough", vars := ["example.com/stablecoin-checkout/stablecoin-checkout/money.ErrSyntax"], fn := fun _ => fun
  | [d, g1] => { results := [.lit (.bool false)], args := [d], vars := [g1] }
  | _ => none }
def FnScannedTextPassesTextThroughWrongFormAsk : Prop := fnScannedTextPassesTextThroughRow.holds Tryf.pinned (OpenSpec.ofChange fnScannedTextPassesTextThroughWrong)

end Rows
end Go.Proofs.Qxb6616958aFmt
