/-
  No cell of these rows narrows 'for every input' (looked for: loops, veiled, ifaces, maps, wideKeys, modest, calm, conditions, laid).
  DERIVED. THE GIVEN ROWS OF THIS SEAT. 2 by the template 'for every input the law returns true; each argument reads behind the call as it read before'; 0 by the template 'total and deterministic' (their statements: Qxb6616015aFmtTotals.lean).
  GIVEN WITH THE SEED: the statements are not yours to turn. If you find one false, say at which input.
  Laid BY PROGRAM, IN A SANDBOX (cutbox-rows.mjs): the forced cells as the released guide's own fill.sh prints them over the translation 12b59f4e3a5bca04… (all of the seat's roots in one cut). By AI agents, Wed Nov 11 2026. No macro, syntax, notation, axiom, sorry.
-/
import Derived.Test.Qxb6616015aFmtChecked
import GoSem.Claim
import GoSem.ClaimJoined
import GoSem.ClaimMapViews
import Derived.JoinedTies
import Derived.KernelRfl
namespace Go.Proofs.Qxb6616015aFmt
/- THE CELL 'sum', in the pinned program and in every row, IS THE sha256 OF THE DUMP (.gsa) THAT Qxb6616015aFmtProg.lean LOADS. Nothing in Lean hashes anything: it is a label: what it is worth is what the hold of that sum in a sandbox is worth. -/
noncomputable def Tryf.pinned : Pinned := { name := "qxb6616015afmt", sum := "12b59f4e3a5bca04c9e8780064bd9e95516c2d3f81ad256b4e0993c07d4621d9", checked := Tryf.checked }
namespace Rows
def none {H : Type} : Left H := { results := [], args := [] }

/-- 'zzlaws_internal_route_b1.FnCheckPortAcceptsAPortOnceDeclared': WHATEVER THE INPUT: true; the input reads as it did. -/
def fnCheckPortAcceptsAPortOnceDeclaredSpec : ChangeSpec := { name := "fnCheckPortAcceptsAPortOnceDeclared", fn := fun _ => fun
  | [d1, d2, d3, d4, d5, d6] => { results := [.lit (.bool true)], args := [d1, d2, d3, d4, d5, d6] }
  | _ => none }
def fnCheckPortAcceptsAPortOnceDeclaredRow : OpenClaim := { program := "qxb6616015afmt", sum := "12b59f4e3a5bca04c9e8780064bd9e95516c2d3f81ad256b4e0993c07d4621d9", func := "example.com/causeway/causeway/zzlaws_internal_route_b1.FnCheckPortAcceptsAPortOnceDeclared", spec := "fnCheckPortAcceptsAPortOnceDeclared", stops := ["fmt.errorf"], inPlace := ["fmt.errorf"], plainKeys := false, apart := false }
/-- NO THEOREM (fmt's text is open here; it may be false): for the released tool's asking of the row's closed facts alone. THE STATEMENT IS 'FnCheckPortAcceptsAPortOnceDeclaredToldSaid' (Qxb6616015aFmtCards.lean). -/
def FnCheckPortAcceptsAPortOnceDeclaredFormAsk : Prop := fnCheckPortAcceptsAPortOnceDeclaredRow.holds Tryf.pinned (OpenSpec.ofChange fnCheckPortAcceptsAPortOnceDeclaredSpec)

/-- ITS FALSE NEIGHBOUR: 'it returns false'. Refute it at one input. -/
def fnCheckPortAcceptsAPortOnceDeclaredWrong : ChangeSpec := { name := "fnCheckPortAcceptsAPortOnceDeclared", fn := fun _ => fun
  | [d1, d2, d3, d4, d5, d6] => { results := [.lit (.bool false)], args := [d1, d2, d3, d4, d5, d6] }
  | _ => none }
def FnCheckPortAcceptsAPortOnceDeclaredWrongFormAsk : Prop := fnCheckPortAcceptsAPortOnceDeclaredRow.holds Tryf.pinned (OpenSpec.ofChange fnCheckPortAcceptsAPortOnceDeclaredWrong)

/-- 'zzlaws_internal_route_b1.FnCheckPortOverJoinedSets': WHATEVER THE INPUT: true; the input reads as it did. -/
def fnCheckPortOverJoinedSetsSpec : ChangeSpec := { name := "fnCheckPortOverJoinedSets", fn := fun _ => fun
  | [d1, d2, d3, d4, d5] => { results := [.lit (.bool true)], args := [d1, d2, d3, d4, d5] }
  | _ => none }
def fnCheckPortOverJoinedSetsRow : OpenClaim := { program := "qxb6616015afmt", sum := "12b59f4e3a5bca04c9e8780064bd9e95516c2d3f81ad256b4e0993c07d4621d9", func := "example.com/causeway/causeway/zzlaws_internal_route_b1.FnCheckPortOverJoinedSets", spec := "fnCheckPortOverJoinedSets", stops := ["fmt.errorf"], inPlace := ["fmt.errorf"], plainKeys := false, apart := false }
/-- NO THEOREM (fmt's text is open here; it may be false): for the released tool's asking of the row's closed facts alone. THE STATEMENT IS 'FnCheckPortOverJoinedSetsToldSaid' (Qxb6616015aFmtCards.lean). -/
def FnCheckPortOverJoinedSetsFormAsk : Prop := fnCheckPortOverJoinedSetsRow.holds Tryf.pinned (OpenSpec.ofChange fnCheckPortOverJoinedSetsSpec)

/-- ITS FALSE NEIGHBOUR: 'it returns false'. Refute it at one input. -/
def fnCheckPortOverJoinedSetsWrong : ChangeSpec := { name := "fnCheckPortOverJoinedSets", fn := fun _ => fun
  | [d1, d2, d3, d4, d5] => { results := [.lit (.bool false)], args := [d1, d2, d3, d4, d5] }
  | _ => none }
def FnCheckPortOverJoinedSetsWrongFormAsk : Prop := fnCheckPortOverJoinedSetsRow.holds Tryf.pinned (OpenSpec.ofChange fnCheckPortOverJoinedSetsWrong)

end Rows
end Go.Proofs.Qxb6616015aFmt
