import Derived.Test.Qxb6615986aDoorProg
import Derived.WalkKit
import Derived.WalkSpells
import Derived.WalkLawsBesides
import Derived.Below
import Derived.Laws.BitsAllLaws
namespace Go.Proofs.Qxb6615986aDoor
open Go.RowKit

theorem and30 (W : Int) (h0 : 0 ≤ W) (h1 : W < 1073741824) : bits .and .u64 W 1073741823 = W := by
  rw [u64_and _ _ (by omega) (by omega) (by omega) (by omega)]
  have : (1073741823 : Int).toNat = 1073741823 := rfl
  rw [this, nat_mask30]
  omega
theorem and63z (W : Int) (h0 : 0 ≤ W) (h1 : W < 1073741824) : bits .and .u64 W 9223372036854775808 = 0 := by
  rw [u64_and _ _ (by omega) (by omega) (by omega) (by omega)]
  have : (9223372036854775808 : Int).toNat = 9223372036854775808 := rfl
  rw [this, nat_bit63]
  omega

set_option maxHeartbeats 400000 in
theorem nsec_any (b o : Nat) (W : Int) (w : World) (h0 : 0 ≤ W) (h1 : W < 1000000000) (hc : w.cell? ⟨b, o, none⟩ = some (.int .u64 W)) :
    Calls Tryd.prog 29 #[.pointer (some ⟨b, o, none⟩)] w fun e w' => e = .returned (.int .i32 W) ∧ w' = w := by
  have e1 := and30 W h0 (by omega)
  go_enter Tryd.func29, Tryd.ntmps29
  go_wp2
  go_ret
  exact ⟨rfl, rfl⟩
set_option maxHeartbeats 400000 in
theorem sec_any (b o : Nat) (W E : Int) (w : World) (h0 : 0 ≤ W) (h1 : W < 1000000000) (hc : w.cell? ⟨b, o, none⟩ = some (.int .u64 W)) (hc1 : w.cell? ⟨b, o + 1, none⟩ = some (.int .i64 E)) :
    Calls Tryd.prog 34 #[.pointer (some ⟨b, o, none⟩)] w fun e w' => e = .returned (.int .i64 E) ∧ w' = w := by
  have e2 := and63z W h0 (by omega)
  go_enter Tryd.func34, Tryd.ntmps34
  go_wp2
  go_ret
  exact ⟨rfl, rfl⟩

theorem andNot30 (W : Int) (h0 : 0 ≤ W) (h1 : W < 1073741824) : bits .andNot .u64 W 1073741823 = 0 := by
  rw [u64_andNot _ _ (by omega) (by omega) (by omega) (by omega)]
  have : (18446744073709551615 - (1073741823 : Int).toNat) = 18446744072635809792 := rfl
  rw [this, nat_hi64_30]
  omega
theorem or0 (N : Int) (h0 : 0 ≤ N) (h1 : N < 1073741824) : bits .or .u64 0 N = N := by
  rw [u64_or _ _ (by omega) (by omega) (by omega) (by omega)]
  simp
  omega

set_option maxHeartbeats 400000 in
theorem addSec_any (b o : Nat) (W E d : Int) (w : World) (h0 : 0 ≤ W) (h1 : W < 1000000000) (hE0 : 0 ≤ E) (hE1 : E ≤ 5000000000) (hd0 : -5000000000 ≤ d) (hd1 : d ≤ 5000000000) (hc : w.cell? ⟨b, o, none⟩ = some (.int .u64 W)) (hc1 : w.cell? ⟨b, o + 1, none⟩ = some (.int .i64 E)) (hf : w.frozen? ⟨b, o + 1, none⟩ = false) :
    Calls Tryd.prog 30 #[.pointer (some ⟨b, o, none⟩), .int .i64 d] w fun e w' => e = .returned (.tuple #[]) ∧ w' = w.setCell ⟨b, o + 1, none⟩ (.int .i64 (E + d)) := by
  have e2 := and63z W h0 (by omega)
  by_cases hd : 0 < d
  · have t1 : E < E + d := by omega
    go_enter Tryd.func30, Tryd.ntmps30
    go_wp2
    go_end0
    exact ⟨rfl, rfl⟩
  · have t1 : ¬ E < E + d := by omega
    have t2 : decide (E < E + d) = false := by simpa using t1
    have t3 : decide (0 < d) = false := by simpa using hd
    go_enter Tryd.func30, Tryd.ntmps30
    go_wp2
    go_end0
    exact ⟨rfl, rfl⟩

/-- a time as ZZtime makes it, by its two numbers -/
def tmv (W E : Int) : Value := .agg #[.int .u64 W, .int .i64 E, .pointer none]

set_option maxHeartbeats 1000000 in
theorem add_case (W E d q r : Int) (w : World) (h0 : 0 ≤ W) (h1 : W < 1000000000) (hE0 : 0 ≤ E) (hE1 : E ≤ 4700000000) (hd0 : 0 ≤ d) (hd1 : d ≤ 4611686018427387904) (hq : d / 1000000000 = q) (hr : d % 1000000000 = r) :
    Calls Tryd.prog 16 #[.agg #[.int .u64 W, .int .i64 E, .pointer none], .int .i64 d] w fun e w' => (∃ N S, e = .returned (.agg #[.int .u64 N, .int .i64 S, .pointer none]) ∧ 0 ≤ N ∧ N < 1000000000 ∧ S * 1000000000 + N = (E * 1000000000 + W) + d) ∧ Below w.heap.size w w' := by
  have hq0 : 0 ≤ q := by omega
  have hq1 : q ≤ 4611686019 := by omega
  have hr0 : 0 ≤ r := by omega
  have hr1 : r < 1000000000 := by omega
  have HD : Hid (d = q * 1000000000 + r) := by show d = _; omega
  have e1 := andNot30 W h0 (by omega)
  by_cases hs : 1000000000 ≤ W + r
  · have e2 := or0 (W + r - 1000000000) (by omega) (by omega)
    have e3 := and63z (W + r - 1000000000) (by omega) (by omega)
    go_enter Tryd.func16, Tryd.ntmps16
    go_wp2_with (first | (go_at_call 29; refine (nsec_any _ _ W _ h0 h1 (by go_simp)).mono ?_; rintro e w' ⟨rfl, hw⟩; subst w') | fail)
    refine (addSec_any w.heap.size 0 (W + r - 1000000000) E (q + 1) _ (by omega) (by omega) hE0 (by omega) (by omega) (by omega) (by go_simp) (by go_simp) (by go_simp)).mono ?_
    rintro e w' ⟨rfl, hw⟩
    subst hw
    go_wp2
    refine bodyPost_ret (v := .agg #[.int .u64 ((W + r - 1000000000)), .int .i64 (E + ((q + 1))), .pointer none]) (by simp [results, Tryd.results16, go_sem]) rfl ⟨⟨(W + r - 1000000000), E + ((q + 1)), rfl, by omega, by omega, by have := HD.out; omega⟩, ?_⟩
    exact ((Below.refl _ _).alloc (Nat.le_refl _) _).alloc (by simp) _
  · have e2 := or0 (W + r) (by omega) (by omega)
    have e3 := and63z (W + r) (by omega) (by omega)
    go_enter Tryd.func16, Tryd.ntmps16
    go_wp2_with (first | (go_at_call 29; refine (nsec_any _ _ W _ h0 h1 (by go_simp)).mono ?_; rintro e w' ⟨rfl, hw⟩; subst w') | fail)
    refine (addSec_any w.heap.size 0 (W + r) E q _ (by omega) (by omega) hE0 (by omega) (by omega) (by omega) (by go_simp) (by go_simp) (by go_simp)).mono ?_
    rintro e w' ⟨rfl, hw⟩
    subst hw
    go_wp2
    refine bodyPost_ret (v := .agg #[.int .u64 ((W + r)), .int .i64 (E + (q)), .pointer none]) (by simp [results, Tryd.results16, go_sem]) rfl ⟨⟨(W + r), E + (q), rfl, by omega, by omega, by have := HD.out; omega⟩, ?_⟩
    exact ((Below.refl _ _).alloc (Nat.le_refl _) _).alloc (by simp) _


set_option maxHeartbeats 1000000 in
theorem add_neg (W E d q r : Int) (w : World) (h0 : 0 ≤ W) (h1 : W < 1000000000) (hE0 : 0 ≤ E) (hE1 : E ≤ 4700000000) (hd0 : d < 0) (hd1 : -4611686018427387904 ≤ d) (hq : d.tdiv 1000000000 = q) (hr : d.tmod 1000000000 = r) :
    Calls Tryd.prog 16 #[.agg #[.int .u64 W, .int .i64 E, .pointer none], .int .i64 d] w fun e w' => (∃ N S, e = .returned (.agg #[.int .u64 N, .int .i64 S, .pointer none]) ∧ 0 ≤ N ∧ N < 1000000000 ∧ S * 1000000000 + N = (E * 1000000000 + W) + d) ∧ Below w.heap.size w w' := by
  obtain ⟨m, rfl⟩ : ∃ m : Int, d = -m := ⟨-d, by omega⟩
  have hqq : q = -(m / 1000000000) := by rw [← hq, Int.neg_tdiv, Int.tdiv_eq_ediv_of_nonneg (by omega)]
  have hrr : r = -(m % 1000000000) := by rw [← hr, Int.neg_tmod, Int.tmod_eq_emod_of_nonneg (by omega)]
  have hq0 : q ≤ 0 := by omega
  have hq1 : -4611686019 ≤ q := by omega
  have hr0 : r ≤ 0 := by omega
  have hr1 : -1000000000 < r := by omega
  have HD : Hid (-m = q * 1000000000 + r) := by show -m = _; omega
  clear hqq hrr
  have e1 := andNot30 W h0 (by omega)
  by_cases hs : W + r < 0
  · have e2 := or0 (W + r + 1000000000) (by omega) (by omega)
    have e3 := and63z (W + r + 1000000000) (by omega) (by omega)
    go_enter Tryd.func16, Tryd.ntmps16
    go_wp2_with (first | (go_at_call 29; refine (nsec_any _ _ W _ h0 h1 (by go_simp)).mono ?_; rintro e w' ⟨rfl, hw⟩; subst w') | fail)
    refine (addSec_any w.heap.size 0 (W + r + 1000000000) E (q - 1) _ (by omega) (by omega) hE0 (by omega) (by omega) (by omega) (by go_simp) (by go_simp) (by go_simp)).mono ?_
    rintro e w' ⟨rfl, hw⟩
    subst hw
    go_wp2
    refine bodyPost_ret (v := .agg #[.int .u64 ((W + r + 1000000000)), .int .i64 (E + ((q - 1))), .pointer none]) (by simp [results, Tryd.results16, go_sem]) rfl ⟨⟨(W + r + 1000000000), E + ((q - 1)), rfl, by omega, by omega, by have := HD.out; omega⟩, ?_⟩
    exact ((Below.refl _ _).alloc (Nat.le_refl _) _).alloc (by simp) _
  · have e2 := or0 (W + r) (by omega) (by omega)
    have e3 := and63z (W + r) (by omega) (by omega)
    go_enter Tryd.func16, Tryd.ntmps16
    go_wp2_with (first | (go_at_call 29; refine (nsec_any _ _ W _ h0 h1 (by go_simp)).mono ?_; rintro e w' ⟨rfl, hw⟩; subst w') | fail)
    refine (addSec_any w.heap.size 0 (W + r) E q _ (by omega) (by omega) hE0 (by omega) (by omega) (by omega) (by go_simp) (by go_simp) (by go_simp)).mono ?_
    rintro e w' ⟨rfl, hw⟩
    subst hw
    go_wp2
    refine bodyPost_ret (v := .agg #[.int .u64 ((W + r)), .int .i64 (E + (q)), .pointer none]) (by simp [results, Tryd.results16, go_sem]) rfl ⟨⟨(W + r), E + (q), rfl, by omega, by omega, by have := HD.out; omega⟩, ?_⟩
    exact ((Below.refl _ _).alloc (Nat.le_refl _) _).alloc (by simp) _

/-- the time of n nanoseconds -/
def tm (n : Int) : Value := .agg #[.int .u64 (n % 1000000000), .int .i64 (n / 1000000000), .pointer none]
theorem tm_of {N S n : Int} (h0 : 0 ≤ N) (h1 : N < 1000000000) (h : S * 1000000000 + N = n) : (.agg #[.int .u64 N, .int .i64 S, .pointer none] : Value) = tm n := by
  unfold tm
  rw [show n % 1000000000 = N by omega, show n / 1000000000 = S by omega]
theorem add_any (b d : Int) (w : World) (hb0 : 0 ≤ b) (hb1 : b ≤ 4611686018427387904) (hd0 : -4611686018427387904 ≤ d) (hd1 : d ≤ 4611686018427387904) :
    Calls Tryd.prog 16 #[tm b, .int .i64 d] w fun e w' => e = .returned (tm (b + d)) ∧ Below w.heap.size w w' := by
  have key : ∀ e w', ((∃ N S, e = Ending.returned (.agg #[.int .u64 N, .int .i64 S, .pointer none]) ∧ 0 ≤ N ∧ N < 1000000000 ∧ S * 1000000000 + N = (b / 1000000000 * 1000000000 + b % 1000000000) + d) ∧ Below w.heap.size w w') → e = .returned (tm (b + d)) ∧ Below w.heap.size w w' := by
    rintro e w' ⟨⟨N, S, rfl, h0, h1, h2⟩, hb⟩
    exact ⟨by rw [tm_of h0 h1 (n := b + d) (by omega)], hb⟩
  by_cases hd : 0 ≤ d
  · exact (add_case (b % 1000000000) (b / 1000000000) d _ _ w (by omega) (by omega) (by omega) (by omega) hd hd1 rfl rfl).mono key
  · exact (add_neg (b % 1000000000) (b / 1000000000) d _ _ w (by omega) (by omega) (by omega) (by omega) (by omega) hd0 rfl rfl).mono key

set_option maxHeartbeats 400000 in
theorem zztime_any (n : Int) (w : World) (h0 : 0 ≤ n) (h1 : n ≤ 4611686018427387904) :
    Calls Tryd.prog 9 #[.int .i64 n] w fun e w' => e = .returned (tm n) ∧ Below w.heap.size w w' := by
  have hcall := fun W => add_any 0 n W (by omega) (by omega) (by omega) h1
  simp only [Int.zero_add] at hcall
  have ht : tm 0 = .agg #[.int .u64 0, .int .i64 0, .pointer none] := rfl
  rw [ht] at hcall
  clear ht
  go_enter Tryd.func9, Tryd.ntmps9
  go_wp2_with fail
  refine (hcall _).mono ?_
  rintro e w1 ⟨rfl, hb⟩
  obtain ⟨hc, hf⟩ := (show (∀ bb oo, bb < w.heap.size + 1 → w1.cell? ⟨bb, oo, none⟩ = (w.alloc (.cells #[.int .u64 0, .int .i64 0, .pointer none] 37)).cell? ⟨bb, oo, none⟩) ∧ (∀ bb oo, bb < w.heap.size + 1 → w1.frozen? ⟨bb, oo, none⟩ = (w.alloc (.cells #[.int .u64 0, .int .i64 0, .pointer none] 37)).frozen? ⟨bb, oo, none⟩) from ⟨fun bb oo h => hb.cell (p := ⟨bb, oo, none⟩) (by simpa using h), fun bb oo h => hb.frozen (p := ⟨bb, oo, none⟩) (by simpa using h)⟩)
  unfold tm
  go_wp2
  refine bodyPost_ret (v := .agg #[.int .u64 (n % 1000000000), .int .i64 (n / 1000000000), .pointer none]) (by simp [results, Tryd.results9, go_sem, hc]) rfl ⟨rfl, ?_⟩
  exact (((((Below.refl _ _).alloc (Nat.le_refl _) _).trans (hb.mono (by simp))).setCell (Nat.le_refl _) _).setCell (Nat.le_refl _) _).setCell (Nat.le_refl _) _

theorem and_bd (W V : Int) (h0 : 0 ≤ W) (h1 : W < 1073741824) (g0 : 0 ≤ V) (g1 : V < 1073741824) : ∃ X, bits .and .u64 W V = X ∧ 0 ≤ X ∧ X < 1073741824 := by
  refine ⟨_, rfl, ?_⟩
  rw [u64_and _ _ (by omega) (by omega) (by omega) (by omega)]
  have : W.toNat &&& V.toNat ≤ W.toNat := Nat.and_le_left
  omega
theorem after_dec (a b : Int) : (decide (b / 1000000000 < a / 1000000000) || (a / 1000000000 == b / 1000000000 && decide (b % 1000000000 < a % 1000000000))) = decide (b < a) := by
  rw [Bool.eq_iff_iff]
  simp only [Bool.or_eq_true, Bool.and_eq_true, decide_eq_true_eq, beq_iff_eq]
  omega

set_option maxHeartbeats 1000000 in
theorem after_any (a b : Int) (w : World) :
    Calls Tryd.prog 19 #[tm a, tm b] w fun e w' => e = .returned (.bool (decide (b < a))) ∧ Below w.heap.size w w' := by
  rw [← after_dec a b]
  unfold tm
  have a0 : 0 ≤ a % 1000000000 := by omega
  have a1 : a % 1000000000 < 1000000000 := by omega
  have b0 : 0 ≤ b % 1000000000 := by omega
  have b1 : b % 1000000000 < 1000000000 := by omega
  generalize a % 1000000000 = W at *
  generalize a / 1000000000 = E at *
  generalize b % 1000000000 = V at *
  generalize b / 1000000000 = G at *
  obtain ⟨X, hX, hX0, hX1⟩ := and_bd W V a0 (by omega) b0 (by omega)
  have e3 := and63z X hX0 hX1
  have hB : Below w.heap.size w ((w.alloc (.cells #[.int .u64 W, .int .i64 E, .pointer none] 37)).alloc (.cells #[.int .u64 V, .int .i64 G, .pointer none] 37)) := ((Below.refl _ _).alloc (Nat.le_refl _) _).alloc (by simp) _
  by_cases h1 : G < E
  · have h1' : decide (G < E) = true := by simpa using h1
    go_enter Tryd.func19, Tryd.ntmps19
    go_wp2_with fail
    refine (sec_any w.heap.size 0 W E _ a0 (by omega) (by go_simp) (by go_simp)).mono ?_
    rintro e w' ⟨rfl, hw⟩; subst w'
    go_wp2_with fail
    refine (sec_any (w.heap.size + 1) 0 V G _ b0 (by omega) (by go_simp) (by go_simp)).mono ?_
    rintro e w' ⟨rfl, hw⟩; subst w'
    go_wp2
    go_ret
    exact ⟨by simp [h1], hB⟩
  · have h1' : decide (G < E) = false := by simpa using h1
    by_cases h2 : (E == G) = true
    · go_enter Tryd.func19, Tryd.ntmps19
      go_wp2_with fail
      refine (sec_any w.heap.size 0 W E _ a0 (by omega) (by go_simp) (by go_simp)).mono ?_
      rintro e w' ⟨rfl, hw⟩; subst w'
      go_wp2_with fail
      refine (sec_any (w.heap.size + 1) 0 V G _ b0 (by omega) (by go_simp) (by go_simp)).mono ?_
      rintro e w' ⟨rfl, hw⟩; subst w'
      go_wp2_with fail
      refine (nsec_any w.heap.size 0 W _ a0 a1 (by go_simp)).mono ?_
      rintro e w' ⟨rfl, hw⟩; subst w'
      go_wp2_with fail
      refine (nsec_any (w.heap.size + 1) 0 V _ b0 b1 (by go_simp)).mono ?_
      rintro e w' ⟨rfl, hw⟩; subst w'
      go_wp2
      go_ret
      exact ⟨by simp [h1', h2], hB⟩
    · have h2' : (E == G) = false := by simpa using h2
      clear h2
      go_enter Tryd.func19, Tryd.ntmps19
      go_wp2_with fail
      refine (sec_any w.heap.size 0 W E _ a0 (by omega) (by go_simp) (by go_simp)).mono ?_
      rintro e w' ⟨rfl, hw⟩; subst w'
      go_wp2_with fail
      refine (sec_any (w.heap.size + 1) 0 V G _ b0 (by omega) (by go_simp) (by go_simp)).mono ?_
      rintro e w' ⟨rfl, hw⟩; subst w'
      go_wp2
      go_ret
      exact ⟨by simp [h1', h2'], hB⟩
end Go.Proofs.Qxb6615986aDoor
