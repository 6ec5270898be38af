import Derived.Test.Qxb6615962aFmtItG
import Derived.Test.Qxb6615962aFmtItB
import Derived.Deep.MidRow
import Derived.Deep.WholeRow
set_option linter.defProp false
namespace Go.Proofs.Qxb6615962aFmt
open Go.RowKit
/-- the twelve months' cells -/
def mv (mo : Nat → Nat) : Array Value := ((List.range 12).map fun j => Value.int .u64 (mo j : Int)).toArray
theorem mv_get (mo : Nat → Nat) (k : Nat) (hk : k < 12) : (mv mo)[k]? = some (.int .u64 (mo k : Int)) := by
  simp [mv, hk]
theorem mv_size (mo : Nat → Nat) : (mv mo).size = 12 := by simp [mv]
theorem info42 (n : Nat) (h : n = 12) : (Tryf.prog.info? 42).map (·.size) = some n := by subst h; kernel_rfl
theorem info23 (n : Nat) (h : n = 12) : (Tryf.prog.info? 23).map (·.size) = some n := by subst h; kernel_rfl
theorem ld42 (b : Nat) (mo : Nat → Nat) (W : World) (h : ∀ j, j < 12 → W.cell? ⟨b, j, none⟩ = some (.int .u64 (mo j : Int))) : (loadVar 42 ⟨b, 0, none⟩).run Tryf.prog W = .ok (.agg (mv mo)) W := by
  have := run_loadVar_mid (P := Tryf.prog) W b 0 42 (mv mo).toList _ ?_ Tryf.underlying42 rfl (info42 _ (by simp [mv]))
  · simpa using this
  · intro j v hv
    have hv' : (mv mo)[j]? = some v := by simpa using hv
    have hj : j < 12 := by
      by_cases hh : j < 12
      · exact hh
      · rw [Array.getElem?_eq_none (by rw [mv_size]; omega)] at hv'
        cases hv'
    rw [mv_get mo j hj] at hv'
    rw [Nat.zero_add, h j hj]
    exact hv'
/-- the months and the days, as far as month k -/
def mAcc (mo : Nat → Nat) : Nat → Nat
  | 0 => 0
  | k + 1 => if mo k = 0 then mAcc mo k else mAcc mo k ||| rangeN (k + 1) (k + 1)
def dAcc (mo : Nat → Nat) : Nat → Nat
  | 0 => 0
  | k + 1 => if mo k = 0 then dAcc mo k else mo k
theorem mAcc_lt (mo : Nat → Nat) (k : Nat) (hk : k ≤ 12) : mAcc mo k < 18446744073709551616 := by
  induction k with
  | zero => simp [mAcc]
  | succ k ih =>
    unfold mAcc
    split
    · exact ih (by omega)
    · have := rangeN_lt (k + 1) (k + 1) (by omega)
      exact Nat.or_lt_two_pow (n := 64) (ih (by omega)) this
theorem dAcc_lt (mo : Nat → Nat) (hmo : ∀ j, mo j < 18446744073709551616) (k : Nat) : dAcc mo k < 18446744073709551616 := by
  induction k with
  | zero => simp [dAcc]
  | succ k ih =>
    unfold dAcc
    split
    · exact ih
    · exact hmo k
theorem idx42 (mo : Nat → Nat) (k : Nat) (hk : k < 12) (w : World) : (Instr.index 42 (.agg (mv mo)) (.int .i64 (k : Int))).run Tryf.prog w = .ok (.int .u64 (mo k : Int)) w := by
  rcases (by omega : k = 0 ∨ k = 1 ∨ k = 2 ∨ k = 3 ∨ k = 4 ∨ k = 5 ∨ k = 6 ∨ k = 7 ∨ k = 8 ∨ k = 9 ∨ k = 10 ∨ k = 11) with rfl | rfl | rfl | rfl | rfl | rfl | rfl | rfl | rfl | rfl | rfl | rfl <;> kernel_rfl
theorem vOf_small (k : Nat) (hk : k < 12) : ((k : Int) + 1) = vOf (k + 1) := by
  unfold vOf
  rw [if_neg (by omega)]
  omega
attribute [-go_sem] loadVar
def lv42 (t : TypeId) (a : Addr) (_h : (t == 42 || t == 23) = false) := loadVar.eq_1 t a
attribute [local go_sem] lv42
set_option maxHeartbeats 4000000 in
set_option maxRecDepth 8000 in
theorem monthsAndDays_any (b : Nat) (mo : Nat → Nat) (w : World) (h : ∀ j, j < 12 → w.cell? ⟨b, j, none⟩ = some (.int .u64 (mo j : Int))) :
    Calls Tryf.prog 19 #[.pointer (some ⟨b, 0, none⟩)] w fun e w' => e = .returned (.tuple #[.int .u64 (mAcc mo 12 : Int), .int .u64 (dAcc mo 12 : Int)]) ∧ w' = w := by
  have hl := ld42 b mo w h
  have HM : Hid (∀ k, k < 12 → (mv mo)[k]? = some (.int .u64 (mo k : Int))) := mv_get mo
  clear h
  go_enter Tryf.func19, Tryf.ntmps19
  go_wp2_with fail
  clear hl
  go_loop [2, 3, 10] (fun a d i => ∃ k : Nat, k ≤ 12 ∧ a = .int .u64 (mAcc mo k : Int) ∧ d = .int .u64 (dAcc mo k : Int) ∧ i = .int .i64 (k : Int)) (fun _ _ i => 12 - (intOf i).toNat)
  case atStart => exact ⟨0, by omega, rfl, rfl, rfl⟩
  case round =>
    obtain ⟨k, hk, rfl, rfl, rfl⟩ := hrel
    by_cases hlt : k < 12
    · have h1 : decide ((k : Int) < 12) = true := by simp; omega
      have hix := idx42 mo k hlt w
      have hw1 : IntKind.i64.wrap ((k : Int) + 1) = (k : Int) + 1 := by rw [IntKind.wrap_i64]; omega
      by_cases h0 : mo k = 0
      · have e1 : mAcc mo (k + 1) = mAcc mo k := by simp [mAcc, h0]
        have e2 : dAcc mo (k + 1) = dAcc mo k := by simp [dAcc, h0]
        have hz : ((mo k : Int) == 0) = true := by simp [h0]
        have HE : Hid (mAcc mo (k + 1) = mAcc mo k ∧ dAcc mo (k + 1) = dAcc mo k) := ⟨e1, e2⟩
        clear e1 e2
        go_wp2_with fail
        go_round
        case rel => exact ⟨k + 1, by omega, by rw [HE.out.1], by rw [HE.out.2], by simp⟩
        case measure => simp [intOf]; omega
      · have e1 : mAcc mo (k + 1) = mAcc mo k ||| rangeN (k + 1) (k + 1) := by simp [mAcc, h0]
        have e2 : dAcc mo (k + 1) = mo k := by simp [dAcc, h0]
        have hz : ((mo k : Int) == 0) = false := by simp; omega
        have ho := bits_or_u64_nat (mAcc mo k) (rangeN (k + 1) (k + 1)) (mAcc_lt mo k hk) (rangeN_lt (k + 1) (k + 1) (by omega))
        rw [← e1] at ho
        have HE : Hid (dAcc mo (k + 1) = mo k) := e2
        have hv := vOf_small k hlt
        have hr := valueRange_bits (k + 1) (k + 1) (by omega) (by omega) w
        rw [← hv] at hr
        clear e1 e2 hv
        go_wp2_with fail
        refine hr.mono ?_
        rintro e w' ⟨rfl, rfl⟩
        go_wp2_with fail
        go_round
        case rel => exact ⟨k + 1, by omega, rfl, by rw [HE.out], by simp⟩
        case measure => simp [intOf]; omega
    · obtain rfl : k = 12 := by omega
      go_wp2_with fail
      go_ret2
      exact ⟨rfl, rfl⟩
end Go.Proofs.Qxb6615962aFmt
