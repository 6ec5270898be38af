/-
  NARROWER THAN 'FOR EVERY INPUT', by the rows' own cells (each row's printed sentence says how): FnQueriedBadOnlyAfterAnotherAnswer: laid.
  DERIVED. THE GIVEN ROWS OF THIS SEAT. 1 by the template 'for every input the law returns true; each argument reads behind the call as it read before'; 0 by the template 'total and deterministic' (their statements: Qxb6615986aDoorTotals.lean).
  GIVEN WITH THE SEED: the statements are not yours to turn. If you find one false, say at which input.
  Laid BY PROGRAM, IN A SANDBOX (cutbox-rows.mjs): the forced cells as the released guide's own fill.sh prints them over the translation 1c78cb684a735617… (all of the seat's roots in one cut). By AI agents, Wed Nov 11 2026. No macro, syntax, notation, axiom, sorry.
-/
import Derived.Test.Qxb6615986aDoorChecked
import GoSem.Claim
import GoSem.ClaimJoined
import GoSem.ClaimMapViews
import Derived.JoinedTies
import Derived.KernelRfl
namespace Go.Proofs.Qxb6615986aDoor
/- THE CELL 'sum', in the pinned program and in every row, IS THE sha256 OF THE DUMP (.gsa) THAT Qxb6615986aDoorProg.lean LOADS. Nothing in Lean hashes anything: it is a label: what it is worth is what the hold of that sum in a sandbox is worth. -/
noncomputable def Tryd.pinned : Pinned := { name := "qxb6615986adoor", sum := "1c78cb684a7356176942b1ed387cac464f0db114cb026a8ebd2ea26512dc974f", checked := Tryd.checked }
namespace Rows
def none {H : Type} : Left H := { results := [], args := [] }

/- WHAT THE LISTED PACKAGE-LEVEL VARIABLES READ AS WHEN THE CALL BEGINS. Each datum BY PROGRAM (the guide's laid-datum.mjs) off the statement by which the dump's own 'gosem.cut.vars' lays the variable. In a bare row this is a premise. The card (Qxb6615986aDoorCards.lean) ties it to the program's text. -/
def laid_net_netip_z4 {H : Type} : DataW H := .agg [.ptr (.agg [.lit (.bool false), .lit (.string [])])]

/-- 'zzlaws_root_b1.FnQueriedBadOnlyAfterAnotherAnswer': WHATEVER THE INPUT: true; the input reads as it did. -/
def fnQueriedBadOnlyAfterAnotherAnswerSpec : ChangeSpec := { name := "fnQueriedBadOnlyAfterAnotherAnswer", fn := fun _ => fun
  | [d1, d2, d3, d4, d5, d6, d7, d8, d9] => { results := [.lit (.bool true)], args := [d1, d2, d3, d4, d5, d6, d7, d8, d9] }
  | _ => none }
def fnQueriedBadOnlyAfterAnotherAnswerRow : OpenClaim := { program := "qxb6615986adoor", sum := "1c78cb684a7356176942b1ed387cac464f0db114cb026a8ebd2ea26512dc974f", func := "example.com/xorweave/xorweave/zzlaws_root_b1.FnQueriedBadOnlyAfterAnotherAnswer", spec := "fnQueriedBadOnlyAfterAnotherAnswer", inPlace := ["(*internal/sync.Mutex).Lock", "internal/race.Disable", "sync/atomic.CompareAndSwapInt32", "internal/race.Enable", "internal/race.Acquire", "(*internal/sync.Mutex).lockSlow", "internal/sync.runtime_canSpin", "internal/sync.runtime_doSpin", "internal/sync.throw", "internal/sync.runtime_nanotime", "internal/sync.runtime_SemacquireMutex", "sync/atomic.AddInt32", "(*internal/sync.Mutex).Unlock", "internal/race.ReleaseMerge", "(*internal/sync.Mutex).unlockSlow", "internal/sync.fatal", "internal/sync.runtime_Semrelease"], unfollowed := true, recurses := true, named := ["net/netip.z4"], apart := false, laid := [("net/netip.z4", laid_net_netip_z4)] }
def FnQueriedBadOnlyAfterAnotherAnswerSaid : Prop := fnQueriedBadOnlyAfterAnotherAnswerRow.holds Tryd.pinned (OpenSpec.ofChange fnQueriedBadOnlyAfterAnotherAnswerSpec)

/-- ITS FALSE NEIGHBOUR: 'it returns false'. Refute it at one input. -/
def fnQueriedBadOnlyAfterAnotherAnswerWrong : ChangeSpec := { name := "fnQueriedBadOnlyAfterAnotherAnswer", fn := fun _ => fun
  | [d1, d2, d3, d4, d5, d6, d7, d8, d9] => { results := [.lit (.bool false)], args := [d1, d2, d3, d4, d5, d6, d7, d8, d9] }
  | _ => none }
def FnQueriedBadOnlyAfterAnotherAnswerWrongFalsely : Prop := fnQueriedBadOnlyAfterAnotherAnswerRow.holds Tryd.pinned (OpenSpec.ofChange fnQueriedBadOnlyAfterAnotherAnswerWrong)

end Rows
end Go.Proofs.Qxb6615986aDoor
