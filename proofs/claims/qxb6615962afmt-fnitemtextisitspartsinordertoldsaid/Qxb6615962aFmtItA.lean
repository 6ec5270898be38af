import Derived.Test.Qxb6615962aFmtProg
import Derived.WalkKit
import Derived.Laws.Bits64b
import Derived.Lib.TrailingZeros
namespace Go.Proofs.Qxb6615962aFmt
open Go.RowKit
theorem bitOf_any (v : Int) (w : World) : Calls Tryf.prog 35 #[.int .i64 v] w fun e w' => e = .returned (.int .u64 (bits .and .u64 (IntKind.u64.wrap v) 63)) ∧ w' = w := by
  go_enter Tryf.func35, Tryf.ntmps35
  go_wp2
  go_ret
  exact ⟨rfl, rfl⟩
/-- the value of bit b -/
def vOf (b : Nat) : Int := if 32 < (b : Int) then (b : Int) - 64 else b
theorem bit_vOf : ∀ b : Nat, b < 64 → bits .and .u64 (IntKind.u64.wrap (vOf b)) 63 = (b : Int) := by decide +kernel
theorem vOf_bounds (b : Nat) (hb : b < 64) : -64 ≤ vOf b ∧ vOf b ≤ 64 := by
  unfold vOf
  split <;> omega
theorem bitOf_vOf (b : Nat) (hb : b < 64) (w : World) : Calls Tryf.prog 35 #[.int .i64 (vOf b)] w fun e w' => e = .returned (.int .u64 b) ∧ w' = w := by
  have := bitOf_any (vOf b) w
  rw [bit_vOf b hb] at this
  exact this
theorem valueOf_nat (b : Nat) (w : World) (h1 : b < 64) : Calls Tryf.prog 38 #[.int .i64 (b : Int)] w fun e w' => e = .returned (.int .i64 (vOf b)) ∧ w' = w := by
  have hw : IntKind.i64.wrap ((b : Int) - 64) = (b : Int) - 64 := by rw [IntKind.wrap_i64]; omega
  unfold vOf
  go_enter Tryf.func38, Tryf.ntmps38
  go_wp2
  all_goals go_ret
  all_goals exact ⟨rfl, rfl⟩
/-- the bits from f to l -/
def rangeN (f l : Nat) : Nat := 2 ^ (l + 1) - 2 ^ f
theorem rangeN_eq (f l : Nat) (hf : f ≤ l) (hl : l < 64) : IntKind.u64.wrap (IntKind.u64.wrap (2 * 2 ^ l) - IntKind.u64.wrap (2 ^ f)) = (rangeN f l : Int) := by
  have h1 : 2 ^ f ≤ 2 ^ l := Nat.pow_le_pow_right (by omega) hf
  have h2 : 2 ^ l ≤ 2 ^ 63 := Nat.pow_le_pow_right (by omega) (by omega)
  have h3 : 0 < 2 ^ f := Nat.pow_pos (by omega)
  have e1 : ((2 : Int) ^ l) = ((2 ^ l : Nat) : Int) := by simp
  have e2 : ((2 : Int) ^ f) = ((2 ^ f : Nat) : Int) := by simp
  unfold rangeN
  rw [e1, e2, Nat.pow_succ]
  generalize 2 ^ l = a at *
  generalize 2 ^ f = b at *
  simp only [IntKind.wrap_u64]
  omega
theorem valueRange_bits (f l : Nat) (hfl : f ≤ l) (hl : l < 64) (w : World) : Calls Tryf.prog 33 #[.int .i64 (vOf f), .int .i64 (vOf l)] w fun e w' => e = .returned (.int .u64 (rangeN f l)) ∧ w' = w := by
  have h1 := fun w => bitOf_vOf f (by omega) w
  have h2 := fun w => bitOf_vOf l hl w
  have h3 := rangeN_eq f l hfl hl
  go_enter Tryf.func33, Tryf.ntmps33
  go_wp2_with fail
  refine (h2 _).mono ?_
  rintro e w' ⟨rfl, rfl⟩
  go_wp2_with fail
  refine (h1 _).mono ?_
  rintro e w' ⟨rfl, rfl⟩
  go_wp2_with fail
  go_ret
  exact ⟨rfl, rfl⟩
theorem has_any (x : Nat) (hx : x < 18446744073709551616) (k : Nat) (hk : k < 5) (w : World) : Calls Tryf.prog 21 #[.int .u64 (x : Int), .int .i64 (k : Int)] w fun e w' => e = .returned (.bool (x.testBit k)) ∧ w' = w := by
  have h1 := fun w => bitOf_any (k : Int) w
  have hb : bits .and .u64 (IntKind.u64.wrap (k : Int)) 63 = (k : Int) := by
    rcases (by omega : k = 0 ∨ k = 1 ∨ k = 2 ∨ k = 3 ∨ k = 4) with rfl | rfl | rfl | rfl | rfl <;> decide +kernel
  have hp : IntKind.u64.wrap (2 ^ k) = ((2 ^ k : Nat) : Int) := by
    rcases (by omega : k = 0 ∨ k = 1 ∨ k = 2 ∨ k = 3 ∨ k = 4) with rfl | rfl | rfl | rfl | rfl <;> decide +kernel
  have hlt : 2 ^ k < 18446744073709551616 := by
    have : 2 ^ k ≤ 2 ^ 4 := Nat.pow_le_pow_right (by omega) (by omega)
    omega
  have hz : (x &&& 2 ^ k = 0) ↔ x.testBit k = false := by
    constructor
    · intro h
      have := congrArg (fun y => Nat.testBit y k) h
      simpa [Nat.testBit_and, Nat.testBit_two_pow_self] using this
    · intro h
      apply Nat.eq_of_testBit_eq
      intro j
      rw [Nat.testBit_and, Nat.testBit_two_pow, Nat.zero_testBit]
      by_cases hj : k = j
      · subst hj; rw [h]; rfl
      · simp [hj]
  have ha : (bits BinOp.and IntKind.u64 (x : Int) (2 ^ k) != 0) = x.testBit k := by
    have e : ((2 : Int) ^ k) = ((2 ^ k : Nat) : Int) := by simp
    rw [e, bits_and_u64_nat x (2 ^ k) hx hlt]
    cases ht : x.testBit k
    · have := hz.2 ht
      simp [this]
    · have : ¬ (x &&& 2 ^ k = 0) := fun h => by rw [hz.1 h] at ht; cases ht
      simpa using this
  rw [hb] at h1
  go_enter Tryf.func21, Tryf.ntmps21
  go_wp2_with fail
  refine (h1 _).mono ?_
  rintro e w' ⟨rfl, rfl⟩
  go_wp2_with fail
  go_ret
  exact ⟨rfl, rfl⟩

/-- the table of TrailingZeros64 -/
def Tab64 (w : World) : Prop := ∀ j, j < 64 → w.cell? ⟨0, j, none⟩ = some (.int .u8 (Lib.deBruijn64tab.getD j 0))
theorem tz_key (x a : Nat) (hx : x < 18446744073709551616) (hx0 : x ≠ 0) (hlow : x &&& (18446744073709551616 - x) = a) :
    IntKind.u64.wrap (bits BinOp.and IntKind.u64 (x : Int) (IntKind.u64.wrap (-(x : Int))) * 285870213051353865) / 288230376151711744 = ((a * 285870213051353865 % 18446744073709551616 / 288230376151711744 : Nat) : Int) := by
  have e1 : IntKind.u64.wrap (-(x : Int)) = ((18446744073709551616 - x : Nat) : Int) := by rw [IntKind.wrap_u64]; omega
  rw [e1, bits_and_u64_nat x _ hx (by omega), hlow, IntKind.wrap_u64]
  omega
theorem tz64_zero (w : World) : Calls Tryf.prog 37 #[.int .u64 0] w fun e w' => e = .returned (.int .i64 64) ∧ w' = w := by
  go_enter Tryf.func37, Tryf.ntmps37
  go_wp2
  go_ret
  exact ⟨rfl, rfl⟩
set_option maxHeartbeats 1000000 in
theorem tz64_core (x k idx : Nat) (w : World) (hx0 : ((x : Int) == 0) = false)
    (key : IntKind.u64.wrap (bits BinOp.and IntKind.u64 (x : Int) (IntKind.u64.wrap (-(x : Int))) * 285870213051353865) / 288230376151711744 = (idx : Int))
    (hi : idx < 64) (hk : k < 64) (hcell : w.cell? ⟨0, idx, none⟩ = some (.int .u8 k)) :
    Calls Tryf.prog 37 #[.int .u64 x] w fun e w' => e = .returned (.int .i64 k) ∧ w' = w := by
  go_enter Tryf.func37, Tryf.ntmps37
  go_wp2_with (simp only [key])
  go_ret
  exact ⟨rfl, rfl⟩
theorem tz64 (x : Nat) (hx : x < 18446744073709551616) (w : World) (hT : Tab64 w) : Calls Tryf.prog 37 #[.int .u64 (x : Int)] w fun e w' => e = .returned (.int .i64 (Lib.ctz 64 x)) ∧ w' = w := by
  by_cases hx0 : x = 0
  · subst hx0
    exact tz64_zero w
  · obtain ⟨hlow, hk⟩ := Lib.lowest_bit 64 x hx0 hx
    obtain ⟨hi, htab⟩ := Lib.deBruijn64_at _ hk
    have hcell := hT _ hi
    rw [htab] at hcell
    exact tz64_core x _ _ w (by simp; omega) (tz_key x _ hx hx0 hlow) hi hk hcell
end Go.Proofs.Qxb6615962aFmt
