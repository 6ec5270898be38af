import Derived.Test.Qxb6615986aDoorDist
import Derived.Lib.BitFns
namespace Go.Proofs.Qxb6615986aDoor
open Go.RowKit
attribute [-go_sem] loadVar storeVar Instr.build
attribute [-simp] Tryd.zeroValue49 Tryd.zeroValue33
attribute [local go_sem] lvs svs bds idAt_drew idAt_alloc hasId_self hasId_app idAt_setCell idAt_setCells cell_setCells frozen_setCells roomAt_drew roomAt_alloc hasRoom_cells idv_size

set_option maxRecDepth 100000 in
set_option maxHeartbeats 4000000 in
theorem len8_any (x : Int) (w : World) (h0 : 0 ≤ x) (h1 : x ≤ 255) :
    Calls Tryd.prog 58 #[.int .u8 x] w fun e w' => e = .returned (.int .i64 (Lib.bitLen x.toNat)) ∧ w' = w := by
  rw [← Lib.len8_int x h0 h1]
  go_enter Tryd.func58, Tryd.ntmps58
  go_wp2
  go_ret
  refine ⟨?_, rfl⟩
  kernel_rfl
set_option maxHeartbeats 1000000 in
theorem lz8_any (x : Int) (w : World) (h0 : 0 ≤ x) (h1 : x ≤ 255) :
    Calls Tryd.prog 50 #[.int .u8 x] w fun e w' => (∃ v : Int, e = .returned (.int .i64 v) ∧ 0 ≤ v ∧ v ≤ 8) ∧ w' = w := by
  have l := Lib.bitLen_le8 ⟨x.toNat, by omega⟩
  simp only at l
  obtain ⟨m, hm⟩ : ∃ m : Nat, m = Lib.bitLen x.toNat := ⟨_, rfl⟩
  have hc := fun W => len8_any x W h0 h1
  rw [← hm] at l hc
  clear hm
  go_enter Tryd.func50, Tryd.ntmps50
  go_wp2_with fail
  refine (hc _).mono ?_
  rintro e w' ⟨rfl, hw⟩
  subst w'
  go_wp2
  go_ret
  exact ⟨⟨_, rfl, by omega, by omega⟩, rfl⟩

theorem idx33 (d : ID20) (k : Nat) (hk : k < 20) (W : World) : (Instr.index 33 (.agg (idv d)) (.int .i64 (k : Int))).run Tryd.prog W = .ok (.int .u8 (((d.1[k]'(by rw [d.2]; exact hk)).toNat : Nat) : Int)) W := by
  have h1 : (0 : Int) ≤ (k : Int) ∧ (k : Int) < 20 := by omega
  have h2 : (idv d)[k]? = some (.int .u8 (((d.1[k]'(by rw [d.2]; exact hk)).toNat : Nat) : Int)) := by
    rw [idv_get, List.getElem?_eq_getElem (show k < d.1.length by rw [d.2]; exact hk)]
    rfl
  simp [go_sem, Instr.index, part, h1, h2]
  intro h
  omega

set_option maxRecDepth 8000 in
set_option maxHeartbeats 4000000 in
theorem leadingZeros_any (d : ID20) (w : World) :
    Calls Tryd.prog 39 #[.agg (idv d)] w fun e w' => (∃ r : Int, e = .returned (.int .i64 r) ∧ 0 ≤ r) ∧ w' = w.alloc (.cells (idv d) 33) := by
  have l33 := ld33 w.heap.size d
  go_enter Tryd.func39, Tryd.ntmps39
  go_wp2
  clear l33
  go_loop [3, 4, 6] (fun _ _ i => ∃ (k : Nat), k ≤ 20 ∧ i = .int .i64 k) (fun _ _ i => 20 - (intOf i).toNat)
  case atStart => exact ⟨0, by omega, rfl⟩
  case round =>
    obtain ⟨k, hk, rfl⟩ := hrel
    by_cases hlt : k < 20
    · have ix := idx33 d k hlt
      obtain ⟨x, hx⟩ : ∃ x : UInt8, x = d.1[k]'(by rw [d.2]; exact hlt) := ⟨_, rfl⟩
      rw [← hx] at ix
      clear hx
      have hb : 0 ≤ ((x.toNat : Nat) : Int) ∧ ((x.toNat : Nat) : Int) ≤ 255 := by have := x.toNat_lt; omega
      obtain ⟨y, hy⟩ : ∃ y : Int, y = ((x.toNat : Nat) : Int) := ⟨_, rfl⟩
      rw [← hy] at ix hb
      clear hy
      have hc := fun W => lz8_any y W hb.1 hb.2
      by_cases hz : y = 0
      · subst hz
        go_wp2
        go_round
        case rel => exact ⟨k + 1, by omega, by go_num⟩
        case measure => simp [intOf]; omega
      · go_wp2_with (go_at_call 50; refine (hc _).mono ?_; rintro e w' ⟨⟨v, rfl, hv0, hv1⟩, hw⟩; subst w')
        go_ret
        exact ⟨⟨_, rfl, by omega⟩, rfl⟩
    · have hkk : k = 20 := by omega
      subst hkk
      go_wp2
      go_ret
      exact ⟨⟨_, rfl, by omega⟩, rfl⟩
end Go.Proofs.Qxb6615986aDoor
