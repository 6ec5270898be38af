/-
  DERIVED. GIVEN WITH THE SEED: THE CARDS: each row of Qxb6615962aFmtRows.lean that lists a variable, with what it lists TIED to the program's text (the seventh form; the later family's looks); each row that meets fmt, with fmt's text TOLD by the authors' own Lean function (tested against real Go, not proved from fmt's source: count such statements apart). THE CARD IS WHAT COUNTS. Prove the row's statement (the work); the ties are given (Qxb6615962aFmtTie.lean); close each card by the builder's one call (the guide's Derived/Test/ToyasCard.lean, 'card_holds'). Laid BY PROGRAM, IN A SANDBOX (cutbox-door.mjs). By AI agents, Wed Nov 11 2026. No macro, syntax, notation, axiom, sorry.
-/
import Derived.Test.Qxb6615962aFmtRows
import GoSem.ClaimSeven
namespace Go.Proofs.Qxb6615962aFmt
namespace Rows

/-- THE TOLD AND TIED CARD OF 'zzlaws_root_b1.FnItemTextMatchesSpec'. -/
def fnItemTextMatchesSpecCard : Claim7 := { stood := { row := fnItemTextMatchesSpecRow, standIns := [], harness := (true, "f83b0bc55417e9b5006f9155336e784d76c92f06f1a7bcaee0c5876dd8d8217a"), looks := false }, told := true, laidByText := true, laidKinds := [.data, .data, .data, .widerDeep], laidTests := true, laidLooks := .later, goes := false }
def FnItemTextMatchesSpecToldSaid : Prop := Claim7.holds Tryf.pinned (.plain (OpenSpec.ofChange fnItemTextMatchesSpecSpec)) fnItemTextMatchesSpecCard
/-- ITS FALSE NEIGHBOUR. Refute it at one input. -/
def FnItemTextMatchesSpecToldWrongFalsely : Prop := Claim7.holds Tryf.pinned (.plain (OpenSpec.ofChange fnItemTextMatchesSpecWrong)) fnItemTextMatchesSpecCard

/-- THE TOLD AND TIED CARD OF 'zzlaws_root_b1.FnItemTextIsItsPartsInOrder'. -/
def fnItemTextIsItsPartsInOrderCard : Claim7 := { stood := { row := fnItemTextIsItsPartsInOrderRow, standIns := [], harness := (true, "f83b0bc55417e9b5006f9155336e784d76c92f06f1a7bcaee0c5876dd8d8217a"), looks := false }, told := true, laidByText := true, laidKinds := [.data, .data, .data, .widerDeep], laidTests := true, laidLooks := .later, goes := false }
def FnItemTextIsItsPartsInOrderToldSaid : Prop := Claim7.holds Tryf.pinned (.plain (OpenSpec.ofChange fnItemTextIsItsPartsInOrderSpec)) fnItemTextIsItsPartsInOrderCard
/-- ITS FALSE NEIGHBOUR. Refute it at one input. -/
def FnItemTextIsItsPartsInOrderToldWrongFalsely : Prop := Claim7.holds Tryf.pinned (.plain (OpenSpec.ofChange fnItemTextIsItsPartsInOrderWrong)) fnItemTextIsItsPartsInOrderCard
end Rows
end Go.Proofs.Qxb6615962aFmt
