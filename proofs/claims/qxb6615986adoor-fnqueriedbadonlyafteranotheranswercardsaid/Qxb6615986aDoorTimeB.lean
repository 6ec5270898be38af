import Derived.Test.Qxb6615986aDoorTimeA
import Derived.Deep.RegionWith
namespace Go.Proofs.Qxb6615986aDoor
open Go.RowKit

set_option maxHeartbeats 1000000 in
theorem equal_self (W E : Int) (w : World) (h0 : 0 ≤ W) (h1 : W < 1000000000) :
    Calls Tryd.prog 49 #[.agg #[.int .u64 W, .int .i64 E, .pointer none], .agg #[.int .u64 W, .int .i64 E, .pointer none]] w fun e w' => e = .returned (.bool true) ∧ Below w.heap.size w w' := by
  obtain ⟨X, hX, hX0, hX1⟩ := and_bd W W h0 (by omega) h0 (by omega)
  have e3 := and63z X hX0 hX1
  go_enter Tryd.func49, Tryd.ntmps49
  go_wp2_with fail
  refine (sec_any w.heap.size 0 W E _ h0 (by omega) (by go_simp) (by go_simp)).mono ?_
  rintro e w' ⟨rfl, hw⟩; subst w'
  go_wp2_with fail
  refine (sec_any (w.heap.size + 1) 0 W E _ h0 (by omega) (by go_simp) (by go_simp)).mono ?_
  rintro e w' ⟨rfl, hw⟩; subst w'
  go_wp2_with fail
  refine (nsec_any w.heap.size 0 W _ h0 h1 (by go_simp)).mono ?_
  rintro e w' ⟨rfl, hw⟩; subst w'
  go_wp2_with fail
  refine (nsec_any (w.heap.size + 1) 0 W _ h0 h1 (by go_simp)).mono ?_
  rintro e w' ⟨rfl, hw⟩; subst w'
  go_wp2
  go_ret
  exact ⟨rfl, ((Below.refl _ _).alloc (Nat.le_refl _) _).alloc (by simp) _⟩

set_option maxHeartbeats 2000000 in
theorem sub_any (a b : Int) (w : World) (ha0 : 0 ≤ a) (ha1 : a ≤ 4611686018427387904) (hb0 : 0 ≤ b) (hb1 : b ≤ 4611686018427387904) :
    Calls Tryd.prog 37 #[tm a, tm b] w fun e w' => e = .returned (.int .i64 (a - b)) ∧ Below w.heap.size w w' := by
  have hadd := fun W => add_any b (a - b) W hb0 hb1 (by omega) (by omega)
  rw [show b + (a - b) = a by omega] at hadd
  have hd : (a / 1000000000 - b / 1000000000) * 1000000000 + (a % 1000000000 - b % 1000000000) = a - b := by omega
  have heq := fun W => equal_self (a % 1000000000) (a / 1000000000) W (by omega) (by omega)
  obtain ⟨d, hdd⟩ : ∃ d, d = a - b := ⟨_, rfl⟩
  rw [← hdd] at hadd hd ⊢
  have hd0 : -4611686018427387904 ≤ d ∧ d ≤ 4611686018427387904 := by omega
  clear hdd
  unfold tm at hadd ⊢
  have a0 : 0 ≤ a % 1000000000 := by omega
  have a1 : a % 1000000000 < 1000000000 := by omega
  have b0 : 0 ≤ b % 1000000000 := by omega
  have b1 : b % 1000000000 < 1000000000 := by omega
  have a2 : 0 ≤ a / 1000000000 := by omega
  have a3 : a / 1000000000 ≤ 4611686019 := by omega
  have b2 : 0 ≤ b / 1000000000 := by omega
  have b3 : b / 1000000000 ≤ 4611686019 := by omega
  generalize a % 1000000000 = W at *
  generalize a / 1000000000 = E at *
  generalize b % 1000000000 = V at *
  generalize b / 1000000000 = G at *
  clear ha0 ha1 hb0 hb1
  obtain ⟨X, hX, hX0, hX1⟩ := and_bd W V a0 (by omega) b0 (by omega)
  have e3 := and63z X hX0 hX1
  obtain ⟨hd0, hd1⟩ := hd0
  go_enter Tryd.func37, Tryd.ntmps37
  go_wp2_with fail
  refine (sec_any w.heap.size 0 W E _ a0 (by omega) (by go_simp) (by go_simp)).mono ?_
  rintro e w' ⟨rfl, hw⟩; subst w'
  go_wp2_with fail
  refine (sec_any (w.heap.size + 1) 0 V G _ b0 (by omega) (by go_simp) (by go_simp)).mono ?_
  rintro e w' ⟨rfl, hw⟩; subst w'
  go_wp2_with fail
  refine (nsec_any w.heap.size 0 W _ a0 a1 (by go_simp)).mono ?_
  rintro e w' ⟨rfl, hw⟩; subst w'
  go_wp2_with fail
  refine (nsec_any (w.heap.size + 1) 0 V _ b0 b1 (by go_simp)).mono ?_
  rintro e w' ⟨rfl, hw⟩; subst w'
  go_wp2_with fail
  go_region_with (first | (go_at_call 16; refine (hadd _).mono ?_; rintro e w1 ⟨rfl, hb⟩; have hcw : ∀ bb oo, bb < w.heap.size + 1 + 1 → w1.cell? ⟨bb, oo, none⟩ = ((w.alloc (.cells #[.int .u64 W, .int .i64 E, .pointer none] 37)).alloc (.cells #[.int .u64 V, .int .i64 G, .pointer none] 37)).cell? ⟨bb, oo, none⟩ := fun bb oo h => hb.cell (p := ⟨bb, oo, none⟩) (by simpa using h)) | (go_at_call 49; refine (heq _).mono ?_; rintro e w2 ⟨rfl, hb2⟩))
  all_goals
    clear hcw
    go_wp2
    go_ret
    have z1 := hb.size
    have z0 : (((w.alloc (.cells #[.int .u64 W, .int .i64 E, .pointer none] 37)).alloc (.cells #[.int .u64 V, .int .i64 G, .pointer none] 37)).drew).heap.size = w.heap.size + 1 + 1 := by simp
    exact ⟨rfl, (((((Below.refl _ _).alloc (Nat.le_refl _) _).alloc (by simp) _).drew).trans (hb.mono (by omega))).trans (hb2.mono (by omega))⟩
end Go.Proofs.Qxb6615986aDoor
