import Derived.Test.Qxb6615962aFmtItA
import Derived.Stop.CallBack
import Derived.Stop.IfaceNil
import Derived.Stop.FmtTextKit
import Derived.Stop.FmtTextWidths
import Derived.Stop.Told
import Derived.SizedLaws
import GoSem.ClaimData
import Derived.WalkSpells
namespace Go.Proofs.Qxb6615962aFmt
open Go.RowKit Go.Extern.Stop Go.Stop Go.Extern
theorem Tryf.call41 (args : Array Value) (w : World) : (callFunc 41 args).run Tryf.prog w = ((FmtStop.sprintf #[9, 116] #[9] args).run Tryf.prog w).andThen fun v w' => .ok (.value v) w' :=
  run_callFunc_extern Tryf.func41 (by kernel_rfl) (by kernel_rfl) (by kernel_rfl) (by kernel_rfl) args w
theorem Tryf.guard (name : String) (w : World) : (FmtStop.guard name).run Tryf.prog w = .ok () w := by kernel_rfl
theorem Tryf.fmt0 : FmtStop.printed? ⟨#[37, 48, 52, 100]⟩ 1 = some [(0, 100, false)] := by kernel_rfl
theorem Tryf.fmt0r (w : World) : (FmtDoors.printed ⟨#[37, 48, 52, 100]⟩ 1).run Tryf.prog w = .ok [(0, 100, false)] w := by kernel_rfl
def Tryf.shape3 : List UInt8 := [5, 3, 0, 0, 0, 0, 0, 0, 0, 105, 110, 116]
theorem Tryf.op3_100 (name : String) (x : Int) (w : World) : (FmtStop.operand name false 100 false (.iface 3 (.int .i64 x))).run Tryf.prog w = .ok (Tryf.shape3, Go.Extern.Stop.digits 8 (x % 2 ^ 64).toNat) w := by kernel_rfl
attribute [local go_sem] Tryf.call41 Tryf.guard Tryf.fmt0 Tryf.fmt0r Tryf.op3_100
/-- what fmt is asked -/
def yreading (y : Int) : List (List UInt8) := [[37, 48, 52, 100], Tryf.shape3, digits 8 (y % 18446744073709551616).toNat]
theorem yparse : (FmtText.parse [37, 48, 52, 100]).map FmtText.glue = some [.verb { widPresent := true, wid := 4, zero := true } 100] := by rfl
theorem ylaw (y : Int) (w1 : (Lit.int .i64 y).wf = true) : FmtText.text "fmt.Sprintf" (yreading y) = some (FmtText.zeros 4 y) := by
  rw [yreading, FmtText.text_sprintf_glued yparse (FmtText.operands_cons (FmtText.operand_int_at (sh := Tryf.shape3) (k := .i64) rfl rfl y w1) FmtText.operands_nil)]
  simp [FmtText.render, FmtText.printArg_d_zero _ 4 _ w1]
theorem ytold (F : Interp) (y : Int) (w1 : (Lit.int .i64 y).wf = true) : F.told.string "fmt.Sprintf" (yreading y) 0 = FmtText.zeros 4 y := by
  have k := FmtText.zeros_length_le' 4 w1
  refine told_string F (ylaw y w1) ?_
  omega
/-- a year's text -/
def yN (y : Int) : ByteArray := ⟨(FmtText.zeros 4 y).toArray⟩
theorem yN_size (y : Int) (w1 : (Lit.int .i64 y).wf = true) : (yN y).size ≤ 1000 := by
  have k := FmtText.zeros_length_le' 4 w1
  show (FmtText.zeros 4 y).toArray.size ≤ 1000
  simp
  omega
set_option maxHeartbeats 2000000 in
theorem yearText_any (F : Interp) (y : Int) (w1 : (Lit.int .i64 y).wf = true) (w : World) (hF : F.told.answers w.tape) :
    Calls Tryf.prog 27 #[.int .i64 y] w fun e w' => e = .returned (.string (yN y)) ∧ Below w.heap.size w w' := by
  have hF' := answers_open hF
  have ht : FmtStop.textOf (F.told "fmt.Sprintf" (yreading y) 0) = yN y := by
    have e : FmtStop.textOf (F.told "fmt.Sprintf" (yreading y) 0) = ⟨(F.told.string "fmt.Sprintf" (yreading y) 0).toArray⟩ := by
      apply ByteArray.ext
      simp [FmtStop.textOf, Interp.string]
    rw [e, ytold F y w1]
    rfl
  have HT : Hid (FmtStop.textOf (F.told "fmt.Sprintf" (yreading y) 0) = yN y) := ht
  clear ht
  go_enter Tryf.func27, Tryf.ntmps27
  go_wp2
  go_ret
  refine ⟨?_, ((Below.refl _ _).alloc (Nat.le_refl _) _).drew⟩
  exact congrArg (fun t => Ending.returned (Value.string t)) HT.out
end Go.Proofs.Qxb6615962aFmt
