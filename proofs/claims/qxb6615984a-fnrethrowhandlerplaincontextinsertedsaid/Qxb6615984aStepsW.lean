import Derived.Test.Qxb6615984aChainB
namespace Go.Proofs.Qxb6615984a
open Go.RowKit

set_option maxHeartbeats 400000 in
theorem bytes_ok (a0 : Option Addr) (n cap : Nat) (w : World) (h : n ≤ 1048576) :
    Calls Try.prog 7 #[.slice a0 n cap] w fun e w' => e = .returned (.bool true) ∧ w' = w := by
  go_enter Try.func7, Try.ntmps7
  go_wp2
  go_ret
  exact ⟨rfl, rfl⟩
set_option maxHeartbeats 400000 in
theorem bytes_no (a0 : Option Addr) (n cap : Nat) (w : World) (h : 1048576 < n) (h' : n ≤ maxLen) :
    Calls Try.prog 7 #[.slice a0 n cap] w fun e w' => e = .returned (.bool false) ∧ w' = w := by
  unfold maxLen at h'
  go_enter Try.func7, Try.ntmps7
  go_wp2
  go_ret
  exact ⟨rfl, rfl⟩

theorem rth_zero {k : Nat → Int} {n i : Nat} (h : (k i == 0) = true) : rth k (n + 1) i = rth k n (i + 1) := by
  unfold rth; rw [near_step h]
theorem rth_one {k : Nat → Int} {n i : Nat} (h : (k i == 0) = false) (h1 : (k i == 1) = true) : rth k (n + 1) i = some i := by
  unfold rth; rw [near_hit h]; simp only [rthOf]; rw [if_pos (by simpa using h1)]
theorem rth_else {k : Nat → Int} {n i : Nat} (h : (k i == 0) = false) (h1 : (k i == 1) = false) : rth k (n + 1) i = none := by
  unfold rth; rw [near_hit h]; simp only [rthOf]; rw [if_neg (by simpa using h1)]

theorem Links.chn {w w1 : World} {m : Nat} {K : Nat → Int} (h : Links w w1 m K (-1)) {wr : World} (hb : Below w1.heap.size w1 wr) : Chn wr (w.heap.size + 2) m K := by
  intro i hi
  have hs := h.size
  have hlt : bk (w.heap.size + 2) m i < w1.heap.size := by unfold bk; omega
  rw [hb.block _ hlt]
  exact h.cx i (by omega) hi
theorem Links.pcell {w w1 : World} {m : Nat} {K : Nat → Int} (h : Links w w1 m K (-1)) {wr : World} (hb : Below w1.heap.size w1 wr) (i : Nat) (hi : i ≤ m) :
    wr.cell? ⟨w.heap.size + 1, i, none⟩ = some (.pointer (ptr (w.heap.size + 2) m i)) := by
  have hs := h.size
  rw [hb.cell (p := ⟨w.heap.size + 1, i, none⟩) (by show w.heap.size + 1 < w1.heap.size; omega)]
  exact h.ps i (by omega) hi

set_option maxHeartbeats 400000 in
theorem steps_big (a0 : Option Addr) (n cap : Nat) (w : World) (h : 4096 < n) (h' : n ≤ maxLen) :
    Calls Try.prog 3 #[.slice a0 n cap] w fun e w' => e = .returned (.bool true) ∧ Below w.heap.size w w' := by
  by_cases hb : n ≤ 1048576
  · go_enter Try.func3, Try.ntmps3
    go_wp2_with (go_at_call 7; refine (bytes_ok _ _ _ _ hb).mono ?_; rintro e w' ⟨rfl, rfl⟩)
    go_ret
    exact ⟨rfl, Below.refl _ _⟩
  · go_enter Try.func3, Try.ntmps3
    go_wp2_with (go_at_call 7; refine (bytes_no _ _ _ _ (by omega) h').mono ?_; rintro e w' ⟨rfl, rfl⟩)
    go_ret
    exact ⟨rfl, Below.refl _ _⟩

set_option maxHeartbeats 1000000 in
theorem steps_small (a0 : Option Addr) (n cap : Nat) (kd : Nat → Int) (w : World) (hn : n ≤ 4096) (hk : Kin w a0 n kd) :
    Calls Try.prog 3 #[.slice a0 n cap] w fun e w' => e = .returned (.bool true) ∧ Below w.heap.size w w' := by
  have hmk2 : ∀ w, (Instr.makeSlice 24 (.int .i64 ((n : Int) + 1)) (.int .i64 ((n : Int) + 1))).run Try.prog w = .ok (.slice (some ⟨w.heap.size, 0, none⟩) (n + 1) (n + 1)) (w.alloc (.cells (madeCells #[.pointer none] (n + 1)) 26)) := fun w => by
    have := run_make_row' (P := Try.prog) 24 26 (.pointer none) 8 Try.underlying24 Try.info26 rfl .i64 .i64 (n + 1) (by omega) (by omega) w
    rwa [Int.natCast_add] at this
  go_enter Try.func3, Try.ntmps3
  go_wp2_with (go_at_call 7; refine (bytes_ok _ _ _ _ (by omega)).mono ?_; rintro e w' ⟨rfl, hw⟩; subst w')
  go_loop [3] (fun i => ∃ k : Nat, k ≤ n ∧ i = .int .i64 k) (fun i => n - (intOf i).toNat)
  case atStart => exact ⟨0, by omega, rfl⟩
  case round =>
    obtain ⟨k, hkn, rfl⟩ := hrel
    by_cases hlt : k < n
    · rcases hk with h0 | ⟨b, off, rfl, hb, hc⟩
      · omega
      have hck := hc k hlt
      have HC : Hid (∀ i, i < n → w.cell? ⟨b, off + i, none⟩ = some (.int .u8 (kd i))) := hc
      clear hc
      by_cases h4 : 4 < kd k
      · go_wp2
        go_ret
        exact ⟨rfl, Below.refl _ _⟩
      · go_wp2
        go_round
        case rel => exact ⟨k + 1, by omega, by go_num⟩
        case measure => simp [intOf]; omega
    · have hkk : n = k := by omega
      subst hkk
      clear hlt hkn
      go_wp2_with (go_at_call 8; refine (chain_neg _ _ _ kd _ hn hk).mono ?_; rintro e w1 ⟨rfl, L⟩)
      have hs1 := L.size
      have hs2 : w.heap.size + 1 < w1.heap.size := by omega
      clear hmk2 hs1
      go_loopw [7] (fun i wr => ∃ k : Nat, k ≤ n + 1 ∧ i = .int .i64 k ∧ Fill w1 wr w1.heap.size (n + 1) k (fun t => .pointer (ptrOf (w.heap.size + 2) n (rth kd (n - t) t)))) (fun i _ => n + 1 - (intOf i).toNat)
      case atStart => exact ⟨0, by omega, rfl, Fill.first w1 (n + 1) _ _ _⟩
      case round =>
        obtain ⟨k, hkn, rfl, F⟩ := hrel
        have hsz := F.size
        have hfr := F.fr
        by_cases hlt : k < n + 1
        · have hp := L.pcell F.bel k (by omega)
          have hc := L.chn F.bel
          obtain ⟨v, hv⟩ := F.got k hlt
          go_wp2_with (go_at_call 9; refine (rethrow_any _ _ kd _ _ (by omega) hc).mono ?_; rintro e w' ⟨rfl, hw⟩; subst w')
          go_roundw
          case rel => exact ⟨k + 1, by omega, by go_num, F.store hlt rfl (Nat.le_refl _)⟩
          case measure => simp [intOf]; omega
        · have hkk : n + 1 = k := by omega
          subst hkk
          have hend := F.done n (by omega)
          rw [show rth kd (n - n) n = none by rw [Nat.sub_self]; rfl] at hend
          simp only [ptrOf] at hend
          clear hlt hkn
          go_wp2
          have HL := L.pcell F.bel
          have HB : Below w.heap.size w wr := L.bel.trans (F.bel.mono (by omega))
          have HD := F.done
          clear F L hend hsz hfr
          have HL' : Hid (∀ i, i ≤ n → wr.cell? ⟨w.heap.size + 1, i, none⟩ = some (.pointer (ptr (w.heap.size + 2) n i))) := HL
          have HD' : Hid (∀ t, t < n + 1 → wr.cell? ⟨w1.heap.size, t, none⟩ = some (.pointer (ptrOf (w.heap.size + 2) n (rth kd (n - t) t)))) := HD
          clear HL HD
          go_loop [8] (fun i => ∃ k : Nat, k ≤ n ∧ i = .int .i64 k) (fun i => n - (intOf i).toNat)
          case atStart => exact ⟨0, by omega, rfl⟩
          case round =>
            obtain ⟨k, hkn, rfl⟩ := hrel
            by_cases hlt : k < n
            · rcases hk with h0 | ⟨b, off, rfl, hb, hc⟩
              · omega
              have hck : wr.cell? ⟨b, off + k, none⟩ = some (.int .u8 (kd k)) := by rw [HB.cell (p := ⟨b, off + k, none⟩) hb]; exact hc k hlt
              clear hc
              have hg := HD'.out k (by omega)
              have hg1 := HD'.out (k + 1) (by omega)
              have hp := HL'.out k (by omega)
              rw [ptr_lt hlt] at hp
              have hnk : n - k = (n - (k + 1)) + 1 := by omega
              rw [hnk] at hg
              clear hnk
              by_cases h0 : (kd k == 0) = true
              · rw [rth_zero h0] at hg
                generalize ptrOf (w.heap.size + 2) n (rth kd (n - (k + 1)) (k + 1)) = X at hg hg1
                have hne := neq_same X
                go_wp2
                go_round
                case rel => exact ⟨k + 1, by omega, by go_num⟩
                case measure => simp [intOf]; omega
              · have h0' : (kd k == 0) = false := by simpa using h0
                clear h0 hg1
                by_cases h1 : (kd k == 1) = true
                · rw [rth_one h0' h1] at hg
                  simp only [ptrOf] at hg
                  have hne := neq_same (some ⟨bk (w.heap.size + 2) n k, 0, none⟩)
                  go_wp2
                  go_round
                  case rel => exact ⟨k + 1, by omega, by go_num⟩
                  case measure => simp [intOf]; omega
                · have h1' : (kd k == 1) = false := by simpa using h1
                  clear h1
                  rw [rth_else h0' h1'] at hg
                  simp only [ptrOf] at hg
                  go_wp2
                  go_round
                  case rel => exact ⟨k + 1, by omega, by go_num⟩
                  case measure => simp [intOf]; omega
            · go_wp2
              go_ret
              exact ⟨rfl, HB⟩
end Go.Proofs.Qxb6615984a
