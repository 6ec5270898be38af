import Derived.Test.Qxb6615962aFmtItA
namespace Go.Proofs.Qxb6615962aFmt
open Go.RowKit
def M : Nat := 18446744073709551616
/-- the lowest bit of a set, the highest of its first run -/
def fstB (x : Nat) : Nat := Lib.ctz 64 x
def lstB (x : Nat) : Nat := fstB x + Lib.ctz 64 (18446744073709551615 - x / 2 ^ fstB x) - 1
/-- the set without its first run -/
def nxt (x : Nat) : Nat := (BitVec.ofNat 64 x &&& ~~~ BitVec.ofNat 64 (rangeN (fstB x) (lstB x))).toNat
def runsF : Nat → Nat → List (Int × Int)
  | 0, _ => []
  | n + 1, x => if x = 0 then [] else (vOf (fstB x), vOf (lstB x)) :: runsF n (nxt x)
def runsOf (x : Nat) : List (Int × Int) := runsF 64 x

theorem ctz_spec (x : Nat) (h0 : x ≠ 0) (h : x < 2 ^ 64) : ∃ m, x = 2 ^ Lib.ctz 64 x * (2 * m + 1) ∧ Lib.ctz 64 x < 64 := by
  unfold Lib.ctz
  rw [if_neg h0]
  exact Lib.ctzFrom_spec 64 x (by omega) h
theorem fstB_lt (x : Nat) (h0 : x ≠ 0) (h : x < 2 ^ 64) : fstB x < 64 := (ctz_spec x h0 h).choose_spec.2
theorem lst_bounds (x : Nat) (h0 : x ≠ 0) (h : x < 2 ^ 64) : fstB x ≤ lstB x ∧ lstB x < 64 ∧ 1 ≤ Lib.ctz 64 (18446744073709551615 - x / 2 ^ fstB x) := by
  obtain ⟨m, hm, hf⟩ := ctz_spec x h0 h
  have hpos : 0 < 2 ^ fstB x := Nat.pow_pos (by omega)
  have hm' : x = 2 ^ fstB x * (2 * m + 1) := hm
  have hy : x / 2 ^ fstB x = 2 * m + 1 := by
    have := Nat.mul_div_cancel_left (2 * m + 1) hpos
    rw [← hm'] at this
    exact this
  have hylt : 2 * m + 1 < 2 ^ (64 - fstB x) := by
    rw [← hy]
    rw [Nat.div_lt_iff_lt_mul hpos, ← Nat.pow_add]
    have : 64 - fstB x + fstB x = 64 := by unfold fstB; omega
    rw [this]; exact h
  have hy64 : 2 * m + 1 < 2 ^ 64 := Nat.lt_of_lt_of_le hylt (Nat.pow_le_pow_right (by omega) (by omega))
  unfold lstB
  rw [hy]
  by_cases hc : 18446744073709551615 - (2 * m + 1) = 0
  · rw [hc]
    have e : Lib.ctz 64 0 = 64 := rfl
    have hf0 : fstB x = 0 := by
      by_cases hz : fstB x = 0
      · exact hz
      · have : 2 ^ (64 - fstB x) ≤ 2 ^ 63 := Nat.pow_le_pow_right (by omega) (by omega)
        omega
    rw [e, hf0]
    omega
  · obtain ⟨q, hq, ht⟩ := ctz_spec _ hc (by omega)
    generalize Lib.ctz 64 (18446744073709551615 - (2 * m + 1)) = t at *
    have ht1 : 1 ≤ t := by
      rcases Nat.eq_zero_or_pos t with h | h
      · subst h; omega
      · exact h
    have hts : t ≤ 64 - fstB x := by
      apply Nat.le_of_not_lt
      intro hlt
      have e1 : 2 ^ t = 2 ^ (64 - fstB x + 1) * 2 ^ (t - (64 - fstB x + 1)) := by rw [← Nat.pow_add]; congr 1; omega
      have e2 : (2 : Nat) ^ 64 = 2 ^ (64 - fstB x + 1) * 2 ^ (fstB x - 1) := by rw [← Nat.pow_add]; congr 1; unfold fstB at *; omega
      have e3 : 2 ^ (64 - fstB x + 1) = 2 * 2 ^ (64 - fstB x) := by rw [Nat.pow_succ]; omega
      rw [e1, Nat.mul_assoc] at hq
      generalize 2 ^ (t - (64 - fstB x + 1)) * (2 * q + 1) = r at hq
      generalize 2 ^ (fstB x - 1) = s at e2
      rw [e3] at hq e2
      generalize 2 ^ (64 - fstB x) = A at *
      have h5 : 2 * A * s = 2 * A * r + (2 * m + 1) + 1 := by omega
      have h6 : r < s := by
        apply Nat.lt_of_not_le
        intro hle
        have : 2 * A * s ≤ 2 * A * r := Nat.mul_le_mul_left _ hle
        omega
      have h7 : 2 * A * (r + 1) ≤ 2 * A * s := Nat.mul_le_mul_left _ h6
      rw [Nat.mul_add, Nat.mul_one] at h7
      omega
    refine ⟨by omega, by unfold fstB at *; omega, ht1⟩
theorem rangeN_bit (f l : Nat) (hfl : f ≤ l) : (rangeN f l).testBit f = true := by
  have hpos : 0 < 2 ^ f := Nat.pow_pos (by omega)
  have e : rangeN f l = 2 ^ f * (2 * (2 ^ (l - f) - 1) + 1) := by
    unfold rangeN
    have h1 : 2 ^ (l + 1) = 2 ^ f * (2 * 2 ^ (l - f)) := by
      rw [← Nat.mul_assoc, Nat.mul_comm (2 ^ f) 2, Nat.mul_assoc, ← Nat.pow_add, Nat.pow_succ, show f + (l - f) = l by omega]
      omega
    have h2 : 0 < 2 ^ (l - f) := Nat.pow_pos (by omega)
    rw [h1]
    generalize 2 ^ (l - f) = B at *
    have : 2 * (B - 1) + 1 = 2 * B - 1 := by omega
    rw [this, Nat.mul_sub, Nat.mul_one]
  rw [Nat.testBit_eq_decide_div_mod_eq, e, Nat.mul_div_cancel_left _ hpos]
  simp
theorem rangeN_lt (f l : Nat) (hl : l < 64) : rangeN f l < 18446744073709551616 := by
  unfold rangeN
  have h1 : 2 ^ (l + 1) ≤ 2 ^ 64 := Nat.pow_le_pow_right (by omega) (by omega)
  have h3 : 0 < 2 ^ f := Nat.pow_pos (by omega)
  omega
theorem nxt_bit (x j : Nat) (hx : x < 2 ^ 64) (hl : lstB x < 64) : (nxt x).testBit j = (x.testBit j && (decide (j < 64) && !(rangeN (fstB x) (lstB x)).testBit j)) := by
  unfold nxt
  rw [BitVec.testBit_toNat, BitVec.getLsbD_and, BitVec.getLsbD_not, ← BitVec.testBit_toNat, ← BitVec.testBit_toNat, BitVec.toNat_ofNat, BitVec.toNat_ofNat, Nat.mod_eq_of_lt hx, Nat.mod_eq_of_lt (rangeN_lt _ _ hl)]
theorem nxt_lt64 (x : Nat) : nxt x < 2 ^ 64 := BitVec.isLt _
theorem fst_bit (x : Nat) (h0 : x ≠ 0) (h : x < 2 ^ 64) : x.testBit (fstB x) = true ∧ ∀ j, j < fstB x → x.testBit j = false := by
  obtain ⟨m, hm, hf⟩ := ctz_spec x h0 h
  have hm' : x = 2 ^ fstB x * (2 * m + 1) := hm
  have hpos : 0 < 2 ^ fstB x := Nat.pow_pos (by omega)
  constructor
  · rw [Nat.testBit_eq_decide_div_mod_eq]
    conv => lhs; rw [show x / 2 ^ fstB x = 2 * m + 1 by conv => lhs; arg 1; rw [hm']
                                                        exact Nat.mul_div_cancel_left _ hpos]
    simp
  · intro j hj
    rw [Nat.testBit_eq_decide_div_mod_eq]
    have e : x / 2 ^ j = 2 * (2 ^ (fstB x - j - 1) * (2 * m + 1)) := by
      have : 2 ^ fstB x = 2 ^ j * (2 * 2 ^ (fstB x - j - 1)) := by
        rw [← Nat.mul_assoc, Nat.mul_comm (2 ^ j) 2, Nat.mul_assoc, ← Nat.pow_add]
        rw [show j + (fstB x - j - 1) = fstB x - 1 by omega, Nat.mul_comm, ← Nat.pow_succ]
        congr 1; omega
      conv => lhs; arg 1; rw [hm', this]
      rw [Nat.mul_assoc, Nat.mul_div_cancel_left _ (Nat.pow_pos (by omega)), Nat.mul_assoc]
    rw [e]
    simp
theorem nxt_next (x : Nat) (h0 : x ≠ 0) (h : x < 2 ^ 64) : nxt x = 0 ∨ fstB x < fstB (nxt x) := by
  by_cases hn : nxt x = 0
  · exact .inl hn
  · right
    obtain ⟨hb, _⟩ := fst_bit (nxt x) hn (nxt_lt64 x)
    obtain ⟨h1, h2, _⟩ := lst_bounds x h0 h
    rw [nxt_bit x _ h h2] at hb
    simp only [Bool.and_eq_true, Bool.not_eq_true', decide_eq_true_eq] at hb
    apply Nat.lt_of_not_le
    intro hle
    rcases Nat.lt_or_eq_of_le hle with hlt | heq
    · rw [(fst_bit x h0 h).2 _ hlt] at hb
      exact absurd hb.1 (by simp)
    · rw [heq, rangeN_bit _ _ h1] at hb
      exact absurd hb.2.2 (by simp)
theorem andNot_u64 (x r : Nat) : bits .andNot .u64 (x : Int) (r : Int) = ((BitVec.ofNat 64 x &&& ~~~ BitVec.ofNat 64 r).toNat : Int) := by
  show IntKind.u64.wrap ((BitVec.ofInt 64 (x : Int) &&& ~~~ BitVec.ofInt 64 (r : Int)).toNat : Int) = _
  rw [BitVec.ofInt_natCast, BitVec.ofInt_natCast, IntKind.wrap_u64]
  have := (BitVec.ofNat 64 x &&& ~~~ BitVec.ofNat 64 r).isLt
  omega
theorem runsF_len (n x : Nat) : (runsF n x).length ≤ n := by
  induction n generalizing x with
  | zero => simp [runsF]
  | succ n ih =>
    unfold runsF
    split
    · simp
    · have := ih (nxt x); simp; omega
theorem runsF_mem (n x : Nat) (hx : x < 2 ^ 64) : ∀ p ∈ runsF n x, (-64 ≤ p.1 ∧ p.1 ≤ 64) ∧ -64 ≤ p.2 ∧ p.2 ≤ 64 := by
  induction n generalizing x with
  | zero => simp [runsF]
  | succ n ih =>
    unfold runsF
    split
    · simp
    · rename_i h0
      intro p hp
      rcases List.mem_cons.1 hp with rfl | hp
      · exact ⟨vOf_bounds _ (fstB_lt x h0 hx), vOf_bounds _ (lst_bounds x h0 hx).2.1⟩
      · exact ih _ (nxt_lt64 x) p hp
end Go.Proofs.Qxb6615962aFmt
