/-
  DERIVED. GIVEN WITH THE SEED: THE CARDS: each row of Qxb6616958aFmtRows.lean that lists a variable, with what it lists TIED to the program's text (the seventh form; the later family's looks); each row that meets fmt, with fmt's text TOLD by the authors' own Lean function (tested against real Go, not proved from fmt's source: count such statements apart). THE CARD IS WHAT COUNTS. Prove the row's statement (the work); the ties are given (Qxb6616958aFmtTie.lean); close each card by the builder's one call (the guide's Derived/Test/ToyasCard.lean, 'card_holds'). Laid BY PROGRAM, IN A SANDBOX (cutbox-door.mjs). By AI agents, Wed Nov 11 2026. No macro, syntax, notation, axiom, sorry.
-/
import Derived.Test.Qxb6616958aFmtRows
import GoSem.ClaimSeven
namespace Go.Proofs.Qxb6616958aFmt
namespace Rows

/-- THE TOLD AND TIED CARD OF 'zzlaws_money_b1.FnAmountStringParsesBack'. -/
def fnAmountStringParsesBackCard : Claim7 := { stood := { row := fnAmountStringParsesBackRow, standIns := [], harness := (true, "c35f339b85beed757f8ec42cca9c4e82b875e6bd1053f65962b5b81e83ced8f6"), looks := true }, told := true, laidByText := true, laidKinds := [.data, .sentinel, .sentinel, .pinned], laidTests := true, laidLooks := .later, goes := false }
def FnAmountStringParsesBackToldSaid : Prop := Claim7.holds Tryf.pinned (.plain (OpenSpec.ofChange fnAmountStringParsesBackSpec)) fnAmountStringParsesBackCard
/-- ITS FALSE NEIGHBOUR. Refute it at one input. -/
def FnAmountStringParsesBackToldWrongFalsely : Prop := Claim7.holds Tryf.pinned (.plain (OpenSpec.ofChange fnAmountStringParsesBackWrong)) fnAmountStringParsesBackCard

/-- THE TOLD CARD OF 'zzlaws_money_b1.FnAmountStringKeepsOrder'. -/
def fnAmountStringKeepsOrderCard : Claim7 := { stood := { row := fnAmountStringKeepsOrderRow, standIns := [], harness := (true, "c35f339b85beed757f8ec42cca9c4e82b875e6bd1053f65962b5b81e83ced8f6"), looks := true }, told := true, goes := false }
def FnAmountStringKeepsOrderToldSaid : Prop := Claim7.holds Tryf.pinned (.plain (OpenSpec.ofChange fnAmountStringKeepsOrderSpec)) fnAmountStringKeepsOrderCard
/-- ITS FALSE NEIGHBOUR. Refute it at one input. -/
def FnAmountStringKeepsOrderToldWrongFalsely : Prop := Claim7.holds Tryf.pinned (.plain (OpenSpec.ofChange fnAmountStringKeepsOrderWrong)) fnAmountStringKeepsOrderCard

/-- THE TOLD AND TIED CARD OF 'zzlaws_money_b1.FnUSDMarshalTextUnmarshalsBack'. -/
def fnUSDMarshalTextUnmarshalsBackCard : Claim7 := { stood := { row := fnUSDMarshalTextUnmarshalsBackRow, standIns := [], harness := (true, "c35f339b85beed757f8ec42cca9c4e82b875e6bd1053f65962b5b81e83ced8f6"), looks := true }, told := true, laidByText := true, laidKinds := [.data, .sentinel, .sentinel, .pinned], laidTests := true, laidLooks := .later, goes := false }
def FnUSDMarshalTextUnmarshalsBackToldSaid : Prop := Claim7.holds Tryf.pinned (.plain (OpenSpec.ofChange fnUSDMarshalTextUnmarshalsBackSpec)) fnUSDMarshalTextUnmarshalsBackCard
/-- ITS FALSE NEIGHBOUR. Refute it at one input. -/
def FnUSDMarshalTextUnmarshalsBackToldWrongFalsely : Prop := Claim7.holds Tryf.pinned (.plain (OpenSpec.ofChange fnUSDMarshalTextUnmarshalsBackWrong)) fnUSDMarshalTextUnmarshalsBackCard

/-- THE TOLD CARD OF 'zzlaws_money_b1.FnUSDMarshalTextMatchesAmount'. -/
def fnUSDMarshalTextMatchesAmountCard : Claim7 := { stood := { row := fnUSDMarshalTextMatchesAmountRow, standIns := [], harness := (true, "c35f339b85beed757f8ec42cca9c4e82b875e6bd1053f65962b5b81e83ced8f6"), looks := true }, told := true, goes := false }
def FnUSDMarshalTextMatchesAmountToldSaid : Prop := Claim7.holds Tryf.pinned (.plain (OpenSpec.ofChange fnUSDMarshalTextMatchesAmountSpec)) fnUSDMarshalTextMatchesAmountCard
/-- ITS FALSE NEIGHBOUR. Refute it at one input. -/
def FnUSDMarshalTextMatchesAmountToldWrongFalsely : Prop := Claim7.holds Tryf.pinned (.plain (OpenSpec.ofChange fnUSDMarshalTextMatchesAmountWrong)) fnUSDMarshalTextMatchesAmountCard

/-- THE TOLD AND TIED CARD OF 'zzlaws_money_b1.FnScannedTextPassesTextThrough'. -/
def fnScannedTextPassesTextThroughCard : Claim7 := { stood := { row := fnScannedTextPassesTextThroughRow, standIns := [], harness := (true, "c35f339b85beed757f8ec42cca9c4e82b875e6bd1053f65962b5b81e83ced8f6"), looks := true }, told := true, laidByText := true, laidKinds := [.sentinel], laidTests := true, laidLooks := .later, goes := false }
def FnScannedTextPassesTextThroughToldSaid : Prop := Claim7.holds Tryf.pinned (.plain (OpenSpec.ofChange fnScannedTextPassesTextThroughSpec)) fnScannedTextPassesTextThroughCard
/-- ITS FALSE NEIGHBOUR. Refute it at one input. -/
def FnScannedTextPassesTextThroughToldWrongFalsely : Prop := Claim7.holds Tryf.pinned (.plain (OpenSpec.ofChange fnScannedTextPassesTextThroughWrong)) fnScannedTextPassesTextThroughCard
end Rows
end Go.Proofs.Qxb6616958aFmt
