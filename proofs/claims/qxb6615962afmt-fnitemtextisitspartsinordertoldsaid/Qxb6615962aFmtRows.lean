/-
  NARROWER THAN 'FOR EVERY INPUT', by the rows' own cells (each row's printed sentence says how): FnItemTextMatchesSpec: laid · FnItemTextIsItsPartsInOrder: laid.
  DERIVED. THE GIVEN ROWS OF THIS SEAT. 2 by the template 'for every input the law returns true; each argument reads behind the call as it read before'; 0 by the template 'total and deterministic' (their statements: Qxb6615962aFmtTotals.lean).
  GIVEN WITH THE SEED: the statements are not yours to turn. If you find one false, say at which input.
  Laid BY PROGRAM, IN A SANDBOX (cutbox-rows.mjs): the forced cells as the released guide's own fill.sh prints them over the translation d09921e4027091e0… (all of the seat's roots in one cut). By AI agents, Wed Nov 11 2026. No macro, syntax, notation, axiom, sorry.
-/
import Derived.Test.Qxb6615962aFmtChecked
import GoSem.Claim
import GoSem.ClaimJoined
import GoSem.ClaimMapViews
import Derived.JoinedTies
import Derived.KernelRfl
namespace Go.Proofs.Qxb6615962aFmt
/- THE CELL 'sum', in the pinned program and in every row, IS THE sha256 OF THE DUMP (.gsa) THAT Qxb6615962aFmtProg.lean LOADS. Nothing in Lean hashes anything: it is a label: what it is worth is what the hold of that sum in a sandbox is worth. -/
noncomputable def Tryf.pinned : Pinned := { name := "qxb6615962afmt", sum := "d09921e4027091e07fc5bfd9cb6c867030b9507d7acf43b46d2fdf2ffa83dba3", checked := Tryf.checked }
namespace Rows
def none {H : Type} : Left H := { results := [], args := [] }

/- WHAT THE LISTED PACKAGE-LEVEL VARIABLES READ AS WHEN THE CALL BEGINS. Each datum BY PROGRAM (the guide's laid-datum.mjs) off the statement by which the dump's own 'gosem.cut.vars' lays the variable. In a bare row this is a premise. The card (Qxb6615962aFmtCards.lean) ties it to the program's text. -/
def laid_math_bits_deBruijn32tab {H : Type} : DataW H := .agg [.lit (.int .u8 0), .lit (.int .u8 1), .lit (.int .u8 28), .lit (.int .u8 2), .lit (.int .u8 29), .lit (.int .u8 14), .lit (.int .u8 24), .lit (.int .u8 3), .lit (.int .u8 30), .lit (.int .u8 22), .lit (.int .u8 20), .lit (.int .u8 15), .lit (.int .u8 25), .lit (.int .u8 17), .lit (.int .u8 4), .lit (.int .u8 8), .lit (.int .u8 31), .lit (.int .u8 27), .lit (.int .u8 13), .lit (.int .u8 23), .lit (.int .u8 21), .lit (.int .u8 19), .lit (.int .u8 16), .lit (.int .u8 7), .lit (.int .u8 26), .lit (.int .u8 12), .lit (.int .u8 18), .lit (.int .u8 6), .lit (.int .u8 11), .lit (.int .u8 5), .lit (.int .u8 10), .lit (.int .u8 9)]
def laid_math_bits_deBruijn64tab {H : Type} : DataW H := .agg [.lit (.int .u8 0), .lit (.int .u8 1), .lit (.int .u8 56), .lit (.int .u8 2), .lit (.int .u8 57), .lit (.int .u8 49), .lit (.int .u8 28), .lit (.int .u8 3), .lit (.int .u8 61), .lit (.int .u8 58), .lit (.int .u8 42), .lit (.int .u8 50), .lit (.int .u8 38), .lit (.int .u8 29), .lit (.int .u8 17), .lit (.int .u8 4), .lit (.int .u8 62), .lit (.int .u8 47), .lit (.int .u8 59), .lit (.int .u8 36), .lit (.int .u8 45), .lit (.int .u8 43), .lit (.int .u8 51), .lit (.int .u8 22), .lit (.int .u8 53), .lit (.int .u8 39), .lit (.int .u8 33), .lit (.int .u8 30), .lit (.int .u8 24), .lit (.int .u8 18), .lit (.int .u8 12), .lit (.int .u8 5), .lit (.int .u8 63), .lit (.int .u8 55), .lit (.int .u8 48), .lit (.int .u8 27), .lit (.int .u8 60), .lit (.int .u8 41), .lit (.int .u8 37), .lit (.int .u8 16), .lit (.int .u8 46), .lit (.int .u8 35), .lit (.int .u8 44), .lit (.int .u8 21), .lit (.int .u8 52), .lit (.int .u8 32), .lit (.int .u8 23), .lit (.int .u8 11), .lit (.int .u8 54), .lit (.int .u8 26), .lit (.int .u8 40), .lit (.int .u8 15), .lit (.int .u8 34), .lit (.int .u8 20), .lit (.int .u8 31), .lit (.int .u8 10), .lit (.int .u8 25), .lit (.int .u8 14), .lit (.int .u8 19), .lit (.int .u8 9), .lit (.int .u8 13), .lit (.int .u8 8), .lit (.int .u8 7), .lit (.int .u8 6)]
def laid_internal_strconv_uint64pow10 {H : Type} : DataW H := .agg [.lit (.int .u64 1), .lit (.int .u64 10), .lit (.int .u64 100), .lit (.int .u64 1000), .lit (.int .u64 10000), .lit (.int .u64 100000), .lit (.int .u64 1000000), .lit (.int .u64 10000000), .lit (.int .u64 100000000), .lit (.int .u64 1000000000), .lit (.int .u64 10000000000), .lit (.int .u64 100000000000), .lit (.int .u64 1000000000000), .lit (.int .u64 10000000000000), .lit (.int .u64 100000000000000), .lit (.int .u64 1000000000000000), .lit (.int .u64 10000000000000000), .lit (.int .u64 100000000000000000), .lit (.int .u64 1000000000000000000), .lit (.int .u64 10000000000000000000)]
def laid_time_longDayNames {H : Type} : DataW H := .slice [.lit (.string [83, 117, 110, 100, 97, 121]), .lit (.string [77, 111, 110, 100, 97, 121]), .lit (.string [84, 117, 101, 115, 100, 97, 121]), .lit (.string [87, 101, 100, 110, 101, 115, 100, 97, 121]), .lit (.string [84, 104, 117, 114, 115, 100, 97, 121]), .lit (.string [70, 114, 105, 100, 97, 121]), .lit (.string [83, 97, 116, 117, 114, 100, 97, 121])] []

/-- 'zzlaws_root_b1.FnItemTextMatchesSpec': WHATEVER THE INPUT: true; the input reads as it did. -/
def fnItemTextMatchesSpecSpec : ChangeSpec := { name := "fnItemTextMatchesSpec", fn := fun _ => fun
  | [d1, d2, d3, d4, d5] => { results := [.lit (.bool true)], args := [d1, d2, d3, d4, d5] }
  | _ => none }
def fnItemTextMatchesSpecRow : OpenClaim := { program := "qxb6615962afmt", sum := "d09921e4027091e07fc5bfd9cb6c867030b9507d7acf43b46d2fdf2ffa83dba3", func := "example.com/interval/interval/zzlaws_root_b1.FnItemTextMatchesSpec", spec := "fnItemTextMatchesSpec", stops := ["fmt.Sprintf"], inPlace := ["internal/abi.NoEscape", "internal/bytealg.MakeNoZero", "fmt.Sprintf"], unfollowed := true, recurses := true, named := ["math/bits.deBruijn64tab", "internal/strconv.uint64pow10", "math/bits.deBruijn32tab", "time.longDayNames"], apart := false, laid := [("math/bits.deBruijn32tab", laid_math_bits_deBruijn32tab), ("math/bits.deBruijn64tab", laid_math_bits_deBruijn64tab), ("internal/strconv.uint64pow10", laid_internal_strconv_uint64pow10), ("time.longDayNames", laid_time_longDayNames)] }
/-- NO THEOREM (fmt's text is open here; it may be false): for the released tool's asking of the row's closed facts alone. THE STATEMENT IS 'FnItemTextMatchesSpecToldSaid' (Qxb6615962aFmtCards.lean). -/
def FnItemTextMatchesSpecFormAsk : Prop := fnItemTextMatchesSpecRow.holds Tryf.pinned (OpenSpec.ofChange fnItemTextMatchesSpecSpec)

/-- ITS FALSE NEIGHBOUR: 'it returns false'. Refute it at one input. -/
def fnItemTextMatchesSpecWrong : ChangeSpec := { name := "fnItemTextMatchesSpec", fn := fun _ => fun
  | [d1, d2, d3, d4, d5] => { results := [.lit (.bool false)], args := [d1, d2, d3, d4, d5] }
  | _ => none }
def FnItemTextMatchesSpecWrongFormAsk : Prop := fnItemTextMatchesSpecRow.holds Tryf.pinned (OpenSpec.ofChange fnItemTextMatchesSpecWrong)

/-- 'zzlaws_root_b1.FnItemTextIsItsPartsInOrder': WHATEVER THE INPUT: true; the input reads as it did. -/
def fnItemTextIsItsPartsInOrderSpec : ChangeSpec := { name := "fnItemTextIsItsPartsInOrder", fn := fun _ => fun
  | [d1, d2, d3, d4, d5] => { results := [.lit (.bool true)], args := [d1, d2, d3, d4, d5] }
  | _ => none }
def fnItemTextIsItsPartsInOrderRow : OpenClaim := { program := "qxb6615962afmt", sum := "d09921e4027091e07fc5bfd9cb6c867030b9507d7acf43b46d2fdf2ffa83dba3", func := "example.com/interval/interval/zzlaws_root_b1.FnItemTextIsItsPartsInOrder", spec := "fnItemTextIsItsPartsInOrder", stops := ["fmt.Sprintf"], inPlace := ["internal/abi.NoEscape", "internal/bytealg.MakeNoZero", "fmt.Sprintf"], unfollowed := true, recurses := true, named := ["math/bits.deBruijn64tab", "internal/strconv.uint64pow10", "math/bits.deBruijn32tab", "time.longDayNames"], apart := false, laid := [("math/bits.deBruijn32tab", laid_math_bits_deBruijn32tab), ("math/bits.deBruijn64tab", laid_math_bits_deBruijn64tab), ("internal/strconv.uint64pow10", laid_internal_strconv_uint64pow10), ("time.longDayNames", laid_time_longDayNames)] }
/-- NO THEOREM (fmt's text is open here; it may be false): for the released tool's asking of the row's closed facts alone. THE STATEMENT IS 'FnItemTextIsItsPartsInOrderToldSaid' (Qxb6615962aFmtCards.lean). -/
def FnItemTextIsItsPartsInOrderFormAsk : Prop := fnItemTextIsItsPartsInOrderRow.holds Tryf.pinned (OpenSpec.ofChange fnItemTextIsItsPartsInOrderSpec)

/-- ITS FALSE NEIGHBOUR: 'it returns false'. Refute it at one input. -/
def fnItemTextIsItsPartsInOrderWrong : ChangeSpec := { name := "fnItemTextIsItsPartsInOrder", fn := fun _ => fun
  | [d1, d2, d3, d4, d5] => { results := [.lit (.bool false)], args := [d1, d2, d3, d4, d5] }
  | _ => none }
def FnItemTextIsItsPartsInOrderWrongFormAsk : Prop := fnItemTextIsItsPartsInOrderRow.holds Tryf.pinned (OpenSpec.ofChange fnItemTextIsItsPartsInOrderWrong)

end Rows
end Go.Proofs.Qxb6615962aFmt
