/-
  DERIVED. GIVEN WITH THE SEED: THE CARDS: each row of Qxb6616015aFmtRows.lean that lists a variable, with what it lists TIED to the program's text (the seventh form; the later family's looks); each row that meets fmt, with fmt's text TOLD by the authors' own Lean function (tested against real Go, not proved from fmt's source: count such statements apart). THE CARD IS WHAT COUNTS. Prove the row's statement (the work); the ties are given (Qxb6616015aFmtTie.lean); close each card by the builder's one call (the guide's Derived/Test/ToyasCard.lean, 'card_holds'). Laid BY PROGRAM, IN A SANDBOX (cutbox-door.mjs). By AI agents, Wed Nov 11 2026. No macro, syntax, notation, axiom, sorry.
-/
import Derived.Test.Qxb6616015aFmtRows
import GoSem.ClaimSeven
namespace Go.Proofs.Qxb6616015aFmt
namespace Rows

/-- THE TOLD CARD OF 'zzlaws_internal_route_b1.FnCheckPortAcceptsAPortOnceDeclared'. -/
def fnCheckPortAcceptsAPortOnceDeclaredCard : Claim7 := { stood := { row := fnCheckPortAcceptsAPortOnceDeclaredRow, standIns := [], harness := (true, "2ee33e21ce32eb9857da6baff93e12f4c1fb4ba1ca8887c2a6180c408dd8b28d"), looks := false }, told := true, goes := false }
def FnCheckPortAcceptsAPortOnceDeclaredToldSaid : Prop := Claim7.holds Tryf.pinned (.plain (OpenSpec.ofChange fnCheckPortAcceptsAPortOnceDeclaredSpec)) fnCheckPortAcceptsAPortOnceDeclaredCard
/-- ITS FALSE NEIGHBOUR. Refute it at one input. -/
def FnCheckPortAcceptsAPortOnceDeclaredToldWrongFalsely : Prop := Claim7.holds Tryf.pinned (.plain (OpenSpec.ofChange fnCheckPortAcceptsAPortOnceDeclaredWrong)) fnCheckPortAcceptsAPortOnceDeclaredCard

/-- THE TOLD CARD OF 'zzlaws_internal_route_b1.FnCheckPortOverJoinedSets'. -/
def fnCheckPortOverJoinedSetsCard : Claim7 := { stood := { row := fnCheckPortOverJoinedSetsRow, standIns := [], harness := (true, "2ee33e21ce32eb9857da6baff93e12f4c1fb4ba1ca8887c2a6180c408dd8b28d"), looks := false }, told := true, goes := false }
def FnCheckPortOverJoinedSetsToldSaid : Prop := Claim7.holds Tryf.pinned (.plain (OpenSpec.ofChange fnCheckPortOverJoinedSetsSpec)) fnCheckPortOverJoinedSetsCard
/-- ITS FALSE NEIGHBOUR. Refute it at one input. -/
def FnCheckPortOverJoinedSetsToldWrongFalsely : Prop := Claim7.holds Tryf.pinned (.plain (OpenSpec.ofChange fnCheckPortOverJoinedSetsWrong)) fnCheckPortOverJoinedSetsCard
end Rows
end Go.Proofs.Qxb6616015aFmt
