import Derived.Test.Qxb6615984aStepsW
namespace Go.Proofs.Qxb6615984a
open Go.RowKit

def ins (a : Nat) (kd : Nat → Int) (t : Nat) : Int := if t < a then kd t else if t = a then 0 else kd (t - 1)
def jj (a n k : Nat) : Nat := if k ≤ a then k else if k ≤ n then k + 1 else n + 1

theorem ins_at (a : Nat) (kd : Nat → Int) : ins a kd a = 0 := by simp [ins]
theorem ins_lt {a t : Nat} (kd : Nat → Int) (h : t < a) : ins a kd t = kd t := by simp [ins, h]
theorem ins_succ {a t : Nat} (kd : Nat → Int) (h : a ≤ t) : ins a kd (t + 1) = kd t := by
  unfold ins; rw [if_neg (by omega), if_neg (by omega)]; rfl
theorem jj_le {a n k : Nat} (h : k ≤ a) : jj a n k = k := by unfold jj; rw [if_pos h]
theorem jj_mid {a n k : Nat} (h : a < k) (h' : k ≤ n) : jj a n k = k + 1 := by unfold jj; rw [if_neg (by omega), if_pos h']
theorem jj_end {a n : Nat} (h : a ≤ n) : jj a n (n + 1) = n + 1 := by unfold jj; rw [if_neg (by omega), if_neg (by omega)]

set_option maxHeartbeats 1000000 in
theorem chain_ge (a0 : Option Addr) (n cap a : Nat) (kd : Nat → Int) (w : World) (hn : n ≤ 4096) (ha : a ≤ n) (hk : Kin w a0 n kd) :
    Calls Try.prog 8 #[.slice a0 n cap, .int .i64 a] w fun e w' => e = .returned (.slice (some ⟨w.heap.size + 1, 0, none⟩) (n + 2) (n + 2)) ∧ Links w w' (n + 1) (ins a kd) (-1) := by
  have hmk1 : ∀ w, (Instr.makeSlice 22 (.int .i64 ((n : Int) + 1)) (.int .i64 ((n : Int) + 1))).run Try.prog w = .ok (.slice (some ⟨w.heap.size, 0, none⟩) (n + 1) (n + 1)) (w.alloc (.cells (madeCells #[.int .u8 0] (n + 1)) 5)) := fun w => by
    have := run_make_row' (P := Try.prog) 22 5 (.int .u8 0) 1 Try.underlying22 Try.info5 rfl .i64 .i64 (n + 1) (by omega) (by omega) w
    rwa [Int.natCast_add] at this
  have hmk2 : ∀ w, (Instr.makeSlice 24 (.int .i64 ((n : Int) + 1 + 1)) (.int .i64 ((n : Int) + 1 + 1))).run Try.prog w = .ok (.slice (some ⟨w.heap.size, 0, none⟩) (n + 2) (n + 2)) (w.alloc (.cells (madeCells #[.pointer none] (n + 2)) 26)) := fun w => by
    have := run_make_row' (P := Try.prog) 24 26 (.pointer none) 8 Try.underlying24 Try.info26 rfl .i64 .i64 (n + 1 + 1) (by omega) (by omega) w
    rwa [Int.natCast_add, Int.natCast_add] at this
  go_enter Try.func8, Try.ntmps8
  go_wp2
  go_loopw [8, 9] (fun j i wr => ∃ k j' : Nat, k ≤ n + 1 ∧ i = .int .i64 k ∧ j = .int .i64 j' ∧ Hid (j' = jj a n k) ∧ Fill w wr w.heap.size (n + 1) j' (fun t => .int .u8 (ins a kd t))) (fun _ i _ => n + 1 - (intOf i).toNat)
  case atStart => exact ⟨0, 0, by omega, by simp, by simp, by simp [jj, Hid], Fill.first w (n + 1) _ _ _⟩
  case round =>
    obtain ⟨k, j, hkn, rfl, rfl, HJ, F⟩ := hrel
    have hsz := F.size
    have hfr := F.fr
    by_cases hlt : k < n
    · rcases hk with h0 | ⟨b, off, rfl, hb, hc⟩
      · omega
      have hck : wr.cell? ⟨b, off + k, none⟩ = some (.int .u8 (kd k)) := by rw [F.bel.cell (p := ⟨b, off + k, none⟩) hb]; exact hc k hlt
      clear hc
      by_cases hka : k = a
      · have hjk : j = k := by rw [HJ.out, jj_le (by omega)]
        subst hka
        subst hjk
        obtain ⟨v, hv⟩ := F.got j (by omega)
        have F1 := F.store (v := .int .u8 0) (by omega) (by show Value.int .u8 0 = Value.int .u8 (ins j kd j); rw [ins_at]) (Nat.le_refl _)
        obtain ⟨v1, hv1⟩ := F1.got (j + 1) (by omega)
        have F2 := F1.store (v := .int .u8 (kd j)) (by omega) (by show Value.int .u8 _ = Value.int .u8 (ins j kd (j + 1)); rw [ins_succ _ (Nat.le_refl _)]) (Nat.le_refl _)
        have hck1 : (wr.setCell ⟨w.heap.size, j, none⟩ (.int .u8 0)).cell? ⟨b, off + j, none⟩ = some (.int .u8 (kd j)) := by rw [World.cell?_setCell_other _ _ _ _ (addr_ne' (by omega))]; exact hck
        go_wp2
        go_roundw
        case rel => exact ⟨j + 1, j + 2, by omega, by go_num, by go_num, by show j + 2 = jj j n (j + 1); rw [jj_mid (by omega) (by omega)], F2⟩
        case measure => simp [intOf]; omega
      · have hka' : ((k : Int) == (a : Int)) = false := by simp; omega
        by_cases hlta : k < a
        · have hjk : j = k := by rw [HJ.out, jj_le (by omega)]
          subst hjk
          obtain ⟨v, hv⟩ := F.got j (by omega)
          have F1 := F.store (v := .int .u8 (kd j)) (by omega) (by show Value.int .u8 _ = Value.int .u8 (ins a kd j); rw [ins_lt _ hlta]) (Nat.le_refl _)
          go_wp2
          go_roundw
          case rel => exact ⟨j + 1, j + 1, by omega, by go_num, by go_num, by show j + 1 = jj a n (j + 1); rw [jj_le (by omega)], F1⟩
          case measure => simp [intOf]; omega
        · have hjk : j = k + 1 := by rw [HJ.out, jj_mid (by omega) (by omega)]
          subst hjk
          obtain ⟨v, hv⟩ := F.got (k + 1) (by omega)
          have F1 := F.store (v := .int .u8 (kd k)) (by omega) (by show Value.int .u8 _ = Value.int .u8 (ins a kd (k + 1)); rw [ins_succ _ (by omega)]) (Nat.le_refl _)
          go_wp2
          go_roundw
          case rel => exact ⟨k + 1, k + 2, by omega, by go_num, by go_num, by show k + 2 = jj a n (k + 1); rw [jj_mid (by omega) (by omega)], F1⟩
          case measure => simp [intOf]; omega
    · by_cases hkn1 : k = n
      · subst hkn1
        by_cases hka : k = a
        · have hjk : j = k := by rw [HJ.out, jj_le (by omega)]
          subst hka
          subst hjk
          obtain ⟨v, hv⟩ := F.got j (by omega)
          have F1 := F.store (v := .int .u8 0) (by omega) (by show Value.int .u8 0 = Value.int .u8 (ins j kd j); rw [ins_at]) (Nat.le_refl _)
          go_wp2
          go_roundw
          case rel => exact ⟨j + 1, j + 1, by omega, by go_num, by go_num, by show j + 1 = jj j j (j + 1); rw [jj_end (Nat.le_refl _)], F1⟩
          case measure => simp [intOf]
        · have hka' : ((k : Int) == (a : Int)) = false := by simp; omega
          have hjk : j = k + 1 := by rw [HJ.out, jj_mid (by omega) (by omega)]
          subst hjk
          go_wp2
          go_roundw
          case rel => exact ⟨k + 1, k + 1, by omega, by go_num, by go_num, by show k + 1 = jj a k (k + 1); rw [jj_end (by omega)], F⟩
          case measure => simp [intOf]
      · have hkk : n + 1 = k := by omega
        subst hkk
        have hjk : j = n + 1 := by rw [HJ.out, jj_end ha]
        subst hjk
        clear hlt hkn1 hkn HJ
        have L0 := Links.first F
        rw [show ((n + 1 : Nat) : Int) - 1 = (n : Int) by omega] at L0
        clear F hfr hk
        go_wp2
        clear hmk1 hmk2 hsz
        go_loopw [11] (fun i wr => ∃ z : Int, -1 ≤ z ∧ z < n + 1 ∧ i = .int .i64 z ∧ Links w wr (n + 1) (ins a kd) z) (fun i _ => (intOf i + 1).toNat)
        case atStart => exact ⟨(n : Int), by omega, by omega, rfl, L0⟩
        case round =>
          clear L0
          obtain ⟨z, hz1, hz2, rfl, L⟩ := hrel
          by_cases hz : 0 ≤ z
          · obtain ⟨i, rfl⟩ := Int.eq_ofNat_of_zero_le hz
            have hs := L.size
            have hsz : w.heap.size + 1 < wr.heap.size := by omega
            have hp := L.ps (i + 1) (by omega) (by omega)
            have hq := L.ks i (by omega)
            obtain ⟨v, hv⟩ := L.got i (by omega)
            have hf := L.fr i
            have hI2 : (0 : Int) ≤ (i : Int) + 1 := by omega
            have hI3 : (i : Int) < (n : Int) + 2 := by omega
            have hI4 : (i : Int) + 1 < (n : Int) + 2 := by omega
            have hW : IntKind.i64.wrap ((i : Int) + 1) = (i : Int) + 1 := by rw [IntKind.wrap_i64]; omega
            clear hs
            go_wp2
            go_region_with (go_at_call 21; refine (newctx_any _ _ _).mono ?_; rintro e w' ⟨rfl, rfl⟩)
            all_goals
              go_wp2
              go_roundw
              case rel => (repeat apply Exists.intro); exact ⟨⟨(i : Int) - 1, by omega, by omega, rfl, (L.step' (by omega)).drew⟩, rfl⟩
              case measure => simp [intOf]
          · go_wp2
            go_ret
            obtain rfl : z = -1 := by omega
            exact ⟨rfl, L⟩

theorem bk_inj {c m i j : Nat} (hi : i < m) (hj : j < m) (h : bk c m i = bk c m j) : i = j := by unfold bk at h; omega

set_option maxHeartbeats 400000 in
theorem index_nil (g m : Nat) (w : World) :
    Calls Try.prog 11 #[.slice (some ⟨g, 0, none⟩) m m, .pointer none] w fun e w' => e = .returned (.int .i64 (-1)) ∧ w' = w := by
  go_enter Try.func11, Try.ntmps11
  go_wp2
  go_ret
  exact ⟨rfl, rfl⟩

set_option maxHeartbeats 400000 in
theorem index_at (g c m j : Nat) (k : Nat → Int) (w : World) (hm : m ≤ 5000) (hj : j < m) (hc : Chn w c m k) (hp : ∀ i, i ≤ m → w.cell? ⟨g, i, none⟩ = some (.pointer (ptr c m i))) :
    Calls Try.prog 11 #[.slice (some ⟨g, 0, none⟩) (m + 1) (m + 1), .pointer (some ⟨bk c m j, 0, none⟩)] w fun e w' => e = .returned (.int .i64 j) ∧ w' = w := by
  have HC : Hid (Chn w c m k) := hc
  have HP : Hid (∀ i, i ≤ m → w.cell? ⟨g, i, none⟩ = some (.pointer (ptr c m i))) := hp
  clear hc hp
  go_enter Try.func11, Try.ntmps11
  go_wp2
  go_loop [5] (fun i => ∃ t : Nat, t ≤ j ∧ i = .int .i64 t) (fun i => m - (intOf i).toNat)
  case atStart => exact ⟨0, by omega, rfl⟩
  case round =>
    obtain ⟨t, ht, rfl⟩ := hrel
    have hpt := HP.out t (by omega)
    rw [ptr_lt (by omega)] at hpt
    by_cases e : t = j
    · subst e
      have he := eql_same ⟨bk c m t, 0, none⟩
      go_wp2
      go_ret
      exact ⟨rfl, rfl⟩
    · have he : ∀ w2 : World, w2.heap = w.heap → (binOp .eql 26 (.pointer (some ⟨bk c m t, 0, none⟩)) (.pointer (some ⟨bk c m j, 0, none⟩))).run Try.prog w2 = .ok (.bool false) w2 := fun w2 h2 =>
        eql_other w2 (addr_ne' (fun h => e (bk_inj (by omega) hj h))) (by rw [h2]; exact HC.out t (by omega)) (by rw [h2]; exact HC.out j hj)
      go_wp2
      go_round
      case rel => exact ⟨t + 1, by omega, by go_num⟩
      case measure => simp [intOf]; omega
end Go.Proofs.Qxb6615984a
