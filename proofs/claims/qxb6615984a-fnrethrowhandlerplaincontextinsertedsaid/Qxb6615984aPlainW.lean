import Derived.Test.Qxb6615984aChainC
namespace Go.Proofs.Qxb6615984a
open Go.RowKit

set_option maxHeartbeats 400000 in
theorem bytes2_ok (a0 : Option Addr) (n cap : Nat) (x : Int) (w : World) (h : n ≤ 1048576) :
    Calls Try.prog 10 #[.slice a0 n cap, .int .i64 x] w fun e w' => e = .returned (.bool true) ∧ w' = w := by
  go_enter Try.func10, Try.ntmps10
  go_wp2
  go_ret
  exact ⟨rfl, rfl⟩
set_option maxHeartbeats 400000 in
theorem bytes2_no (a0 : Option Addr) (n cap : Nat) (x : Int) (w : World) (h : 1048576 < n) (h' : n ≤ maxLen) :
    Calls Try.prog 10 #[.slice a0 n cap, .int .i64 x] w fun e w' => e = .returned (.bool false) ∧ w' = w := by
  unfold maxLen at h'
  go_enter Try.func10, Try.ntmps10
  go_wp2
  go_ret
  exact ⟨rfl, rfl⟩

def wi : Option Nat → Int
  | none => -1
  | some j => j
def shift (a j : Nat) : Nat := if j < a then j else j + 1

theorem near_past (a : Nat) (kd : Nat → Int) : ∀ (f i : Nat), a ≤ i → near (ins a kd) f (i + 1) = (near kd f i).map (· + 1)
  | 0, _, _ => rfl
  | f + 1, i, h => by
    simp only [near]
    rw [ins_succ kd h]
    split
    · exact near_past a kd f (i + 1) (by omega)
    · rfl
theorem near_ins (a : Nat) (kd : Nat → Int) : ∀ (d i f : Nat), i + d = a → d ≤ f → near (ins a kd) (f + 1) i = (near kd f i).map (shift a)
  | 0, i, f, h, _ => by
    have e : i = a := by omega
    subst e
    simp only [near]
    rw [ins_at, if_pos rfl, near_past i kd f i (Nat.le_refl _)]
    cases hn : near kd f i with
    | none => rfl
    | some j =>
      have := (near_lt f i j hn).1
      simp only [Option.map_some, shift]
      rw [if_neg (by omega)]
  | d + 1, i, 0, h, h' => by omega
  | d + 1, i, f + 1, h, h' => by
    have ih := near_ins a kd d (i + 1) f (by omega) (by omega)
    rw [near, ins_lt kd (by omega)]
    rw [show near kd (f + 1) i = if kd i = 0 then near kd f (i + 1) else some i from rfl]
    split
    · exact ih
    · simp only [Option.map_some, shift]
      rw [if_pos (by omega)]
theorem rth_ins (a n : Nat) (kd : Nat → Int) (h : a ≤ n) : rth (ins a kd) (n + 1) 0 = (rth kd n 0).map (shift a) := by
  unfold rth
  rw [near_ins a kd a 0 n (by omega) h]
  cases hn : near kd n 0 with
  | none => rfl
  | some j =>
    have e : ins a kd (shift a j) = kd j := by
      unfold shift
      split
      · rw [ins_lt kd ‹_›]
      · rw [ins_succ kd (by omega)]
    simp only [Option.map_some, rthOf, e]
    split <;> rfl
theorem rth_lt {k : Nat → Int} {n j : Nat} (h : rth k n 0 = some j) : j < n := by
  unfold rth at h
  cases hn : near k n 0 with
  | none => rw [hn] at h; cases h
  | some i =>
    rw [hn] at h
    simp only [rthOf] at h
    split at h
    · rename_i hi; cases h; have := near_lt n 0 _ hn; omega
    · cases h

theorem index_any (g c m : Nat) (r : Option Nat) (k : Nat → Int) (w : World) (hm : m ≤ 5000) (hr : ∀ j, r = some j → j < m) (hc : Chn w c m k) (hp : ∀ i, i ≤ m → w.cell? ⟨g, i, none⟩ = some (.pointer (ptr c m i))) :
    Calls Try.prog 11 #[.slice (some ⟨g, 0, none⟩) (m + 1) (m + 1), .pointer (ptrOf c m r)] w fun e w' => e = .returned (.int .i64 (wi r)) ∧ w' = w := by
  rcases r with _ | j
  · exact index_nil g (m + 1) w
  · exact index_at g c m j k w hm (hr j rfl) hc hp

theorem Kin.below {w w1 : World} {a0 : Option Addr} {n : Nat} {kd : Nat → Int} (h : Kin w a0 n kd) (hb : Below w.heap.size w w1) : Kin w1 a0 n kd := by
  rcases h with h | ⟨b, off, h1, h2, h3⟩
  · exact .inl h
  · exact .inr ⟨b, off, h1, Nat.lt_of_lt_of_le h2 hb.size, fun i hi => by rw [hb.cell (p := ⟨b, off + i, none⟩) h2]; exact h3 i hi⟩

set_option maxHeartbeats 400000 in
theorem plain_big (a0 : Option Addr) (n cap : Nat) (x : Int) (w : World) (h : 4096 < n) (h' : n ≤ maxLen) :
    Calls Try.prog 4 #[.slice a0 n cap, .int .i64 x] w fun e w' => e = .returned (.bool true) ∧ Below w.heap.size w w' := by
  by_cases hb : n ≤ 1048576
  · go_enter Try.func4, Try.ntmps4
    go_wp2_with (go_at_call 10; refine (bytes2_ok _ _ _ _ _ hb).mono ?_; rintro e w' ⟨rfl, rfl⟩)
    go_ret
    exact ⟨rfl, Below.refl _ _⟩
  · go_enter Try.func4, Try.ntmps4
    go_wp2_with (go_at_call 10; refine (bytes2_no _ _ _ _ _ (by omega) h').mono ?_; rintro e w' ⟨rfl, rfl⟩)
    go_ret
    exact ⟨rfl, Below.refl _ _⟩

set_option maxHeartbeats 1000000 in
theorem plain_out (a0 : Option Addr) (n cap : Nat) (kd : Nat → Int) (x : Int) (w : World) (hn : n ≤ 4096) (hx : x < 0 ∨ (n : Int) < x) (hk : Kin w a0 n kd) :
    Calls Try.prog 4 #[.slice a0 n cap, .int .i64 x] w fun e w' => e = .returned (.bool true) ∧ Below w.heap.size w w' := by
  go_enter Try.func4, Try.ntmps4
  go_wp2_with (go_at_call 10; refine (bytes2_ok _ _ _ _ _ (by omega)).mono ?_; rintro e w' ⟨rfl, hw⟩; subst w')
  go_loop [5] (fun i => ∃ k : Nat, k ≤ n ∧ i = .int .i64 k) (fun i => n - (intOf i).toNat)
  case atStart => exact ⟨0, by omega, rfl⟩
  case round =>
    obtain ⟨k, hkn, rfl⟩ := hrel
    by_cases hlt : k < n
    · rcases hk with h0 | ⟨b, off, rfl, hb, hc⟩
      · omega
      have hck := hc k hlt
      have HC : Hid (∀ i, i < n → w.cell? ⟨b, off + i, none⟩ = some (.int .u8 (kd i))) := hc
      clear hc
      by_cases h4 : 4 < kd k
      · go_wp2
        go_ret
        exact ⟨rfl, Below.refl _ _⟩
      · go_wp2
        go_round
        case rel => exact ⟨k + 1, by omega, by go_num⟩
        case measure => simp [intOf]; omega
    · by_cases hx0 : x < 0
      · go_wp2
        go_ret
        exact ⟨rfl, Below.refl _ _⟩
      · have hx1 : (n : Int) < x := by omega
        clear hx
        go_wp2
        go_ret
        exact ⟨rfl, Below.refl _ _⟩

set_option maxHeartbeats 2000000 in
theorem plain_in (a0 : Option Addr) (n cap a : Nat) (kd : Nat → Int) (w : World) (hn : n ≤ 4096) (ha : a ≤ n) (hk : Kin w a0 n kd) :
    Calls Try.prog 4 #[.slice a0 n cap, .int .i64 a] w fun e w' => e = .returned (.bool true) ∧ Below w.heap.size w w' := by
  go_enter Try.func4, Try.ntmps4
  go_wp2_with (go_at_call 10; refine (bytes2_ok _ _ _ _ _ (by omega)).mono ?_; rintro e w' ⟨rfl, hw⟩; subst w')
  go_loop [5] (fun i => ∃ k : Nat, k ≤ n ∧ i = .int .i64 k) (fun i => n - (intOf i).toNat)
  case atStart => exact ⟨0, by omega, rfl⟩
  case round =>
    obtain ⟨k, hkn, rfl⟩ := hrel
    by_cases hlt : k < n
    · rcases hk with h0 | ⟨b, off, rfl, hb, hc⟩
      · omega
      have hck := hc k hlt
      have HC : Hid (∀ i, i < n → w.cell? ⟨b, off + i, none⟩ = some (.int .u8 (kd i))) := hc
      clear hc
      by_cases h4 : 4 < kd k
      · go_wp2
        go_ret
        exact ⟨rfl, Below.refl _ _⟩
      · go_wp2
        go_round
        case rel => exact ⟨k + 1, by omega, by go_num⟩
        case measure => simp [intOf]; omega
    · have hkk : n = k := by omega
      subst hkk
      clear hlt hkn
      go_wp2_with fail
      refine (chain_neg _ _ _ kd _ hn hk).mono ?_
      rintro e w1 ⟨rfl, L1⟩
      have hk1 := hk.below L1.bel
      go_wp2_with fail
      refine (chain_ge _ _ _ a kd _ hn ha hk1).mono ?_
      rintro e w2 ⟨rfl, L2⟩
      have HB : Below w.heap.size w w2 := L1.bel.trans (L2.bel.mono L1.bel.size)
      have hC1 := L1.chn L2.bel
      have hC2 := L2.chn (Below.refl _ w2)
      have hP1 : Hid (∀ i, i ≤ n → w2.cell? ⟨w.heap.size + 1, i, none⟩ = some (.pointer (ptr (w.heap.size + 2) n i))) := L1.pcell L2.bel
      have hP2 : Hid (∀ i, i ≤ n + 1 → w2.cell? ⟨w1.heap.size + 1, i, none⟩ = some (.pointer (ptr (w1.heap.size + 2) (n + 1) i))) := L2.pcell (Below.refl _ w2)
      have hp1 := hP1.out 0 (Nat.zero_le _)
      have hp2 := hP2.out 0 (Nat.zero_le _)
      have hR1 : Hid (∀ j, rth kd (n - 0) 0 = some j → j < n) := fun j h => rth_lt h
      have hR2 : Hid (∀ j, rth (ins a kd) (n + 1 - 0) 0 = some j → j < n + 1) := fun j h => rth_lt h
      have hk2 := hk.below HB
      have HK : Hid (Kin w2 a0 n kd) := hk2
      have HR : Hid (rth (ins a kd) (n + 1) 0 = (rth kd n 0).map (shift a)) := rth_ins a n kd ha
      clear hk hk1 hk2 L1 L2
      go_wp2_with fail
      go_loop [8, 9] (fun x i => ∃ k : Nat, k ≤ n ∧ i = .int .i64 k ∧ x = .int .i64 (-1) ∧ Hid (near kd (n - k) k = near kd n 0)) (fun _ i => n - (intOf i).toNat)
      case atStart => exact ⟨0, by omega, rfl, rfl, rfl⟩
      case round =>
        obtain ⟨k, hkn, rfl, rfl, HN⟩ := hrel
        by_cases hlt : k < n
        · rcases HK.out with h0 | ⟨b, off, rfl, hb, hc⟩
          · omega
          have hck := hc k hlt
          clear hc HK
          have HS : Hid (n - k = (n - (k + 1)) + 1) := by show n - k = _; omega
          by_cases h0 : (kd k == 0) = true
          · go_wp2
            go_round
            case rel => exact ⟨k + 1, by omega, by go_num, rfl, by have := HN.out; rw [HS.out, near_step h0] at this; exact this⟩
            case measure => simp [intOf]; omega
          · have h0' : (kd k == 0) = false := by simpa using h0
            clear h0
            have hnear : Hid (near kd n 0 = some k) := by have := HN.out; rw [HS.out, near_hit h0'] at this; exact this.symm
            by_cases h1 : (kd k == 1) = true
            · have HX1 : Hid (wi (rth kd (n - 0) 0) = k) := by show wi (rth kd n 0) = k; unfold rth; rw [hnear.out]; simp only [rthOf]; rw [if_pos (by simpa using h1)]; rfl
              have hr : Hid (rth kd n 0 = some k) := by show rth kd n 0 = _; unfold rth; rw [hnear.out]; simp only [rthOf]; rw [if_pos (by simpa using h1)]
              by_cases hka : (a : Int) ≤ (k : Int)
              · have HX2 : Hid (wi (rth (ins a kd) (n + 1 - 0) 0) = (k : Int) + 1) := by show wi (rth (ins a kd) (n + 1) 0) = _; rw [HR.out, hr.out]; simp only [Option.map_some, shift]; rw [if_neg (by omega)]; simp [wi]
                go_wp2_with fail
                refine (rethrow_any _ _ kd 0 _ (Nat.zero_le _) hC1).mono ?_
                rintro e w' ⟨rfl, hw⟩; subst w'
                go_wp2_with fail
                refine (index_any _ _ n _ kd w2 (by omega) hR1.out hC1 hP1.out).mono ?_
                rintro e w' ⟨he, hw⟩; subst w'; rw [HX1.out] at he; subst he
                go_wp2_with fail
                refine (rethrow_any _ _ (ins a kd) 0 _ (Nat.zero_le _) hC2).mono ?_
                rintro e w' ⟨rfl, hw⟩; subst w'
                go_wp2_with fail
                refine (index_any _ _ (n + 1) _ (ins a kd) w2 (by omega) hR2.out hC2 hP2.out).mono ?_
                rintro e w' ⟨he, hw⟩; subst w'; rw [HX2.out] at he; subst he
                go_wp2
                go_ret
                exact ⟨rfl, HB⟩
              · have HX2 : Hid (wi (rth (ins a kd) (n + 1 - 0) 0) = (k : Int)) := by show wi (rth (ins a kd) (n + 1) 0) = _; rw [HR.out, hr.out]; simp only [Option.map_some, shift]; rw [if_pos (by omega)]; rfl
                go_wp2_with fail
                refine (rethrow_any _ _ kd 0 _ (Nat.zero_le _) hC1).mono ?_
                rintro e w' ⟨rfl, hw⟩; subst w'
                go_wp2_with fail
                refine (index_any _ _ n _ kd w2 (by omega) hR1.out hC1 hP1.out).mono ?_
                rintro e w' ⟨he, hw⟩; subst w'; rw [HX1.out] at he; subst he
                go_wp2_with fail
                refine (rethrow_any _ _ (ins a kd) 0 _ (Nat.zero_le _) hC2).mono ?_
                rintro e w' ⟨rfl, hw⟩; subst w'
                go_wp2_with fail
                refine (index_any _ _ (n + 1) _ (ins a kd) w2 (by omega) hR2.out hC2 hP2.out).mono ?_
                rintro e w' ⟨he, hw⟩; subst w'; rw [HX2.out] at he; subst he
                go_wp2
                go_ret
                exact ⟨rfl, HB⟩
            · have h1' : (kd k == 1) = false := by simpa using h1
              clear h1
              have hr : Hid (rth kd n 0 = none) := by show rth kd n 0 = _; unfold rth; rw [hnear.out]; simp only [rthOf]; rw [if_neg (by simpa using h1')]
              have HX1 : Hid (wi (rth kd (n - 0) 0) = -1) := by show wi (rth kd n 0) = -1; rw [hr.out]; rfl
              have HX2 : Hid (wi (rth (ins a kd) (n + 1 - 0) 0) = -1) := by show wi (rth (ins a kd) (n + 1) 0) = -1; rw [HR.out, hr.out]; rfl
              go_wp2_with fail
              refine (rethrow_any _ _ kd 0 _ (Nat.zero_le _) hC1).mono ?_
              rintro e w' ⟨rfl, hw⟩; subst w'
              go_wp2_with fail
              refine (index_any _ _ n _ kd w2 (by omega) hR1.out hC1 hP1.out).mono ?_
              rintro e w' ⟨he, hw⟩; subst w'; rw [HX1.out] at he; subst he
              go_wp2_with fail
              refine (rethrow_any _ _ (ins a kd) 0 _ (Nat.zero_le _) hC2).mono ?_
              rintro e w' ⟨rfl, hw⟩; subst w'
              go_wp2_with fail
              refine (index_any _ _ (n + 1) _ (ins a kd) w2 (by omega) hR2.out hC2 hP2.out).mono ?_
              rintro e w' ⟨he, hw⟩; subst w'; rw [HX2.out] at he; subst he
              go_wp2
              go_ret
              exact ⟨rfl, HB⟩
        · have hr : Hid (rth kd n 0 = none) := by show rth kd n 0 = _; unfold rth; rw [← HN.out, show n - k = 0 by omega]; rfl
          have HX1 : Hid (wi (rth kd (n - 0) 0) = -1) := by show wi (rth kd n 0) = -1; rw [hr.out]; rfl
          have HX2 : Hid (wi (rth (ins a kd) (n + 1 - 0) 0) = -1) := by show wi (rth (ins a kd) (n + 1) 0) = -1; rw [HR.out, hr.out]; rfl
          go_wp2_with fail
          refine (rethrow_any _ _ kd 0 _ (Nat.zero_le _) hC1).mono ?_
          rintro e w' ⟨rfl, hw⟩; subst w'
          go_wp2_with fail
          refine (index_any _ _ n _ kd w2 (by omega) hR1.out hC1 hP1.out).mono ?_
          rintro e w' ⟨he, hw⟩; subst w'; rw [HX1.out] at he; subst he
          go_wp2_with fail
          refine (rethrow_any _ _ (ins a kd) 0 _ (Nat.zero_le _) hC2).mono ?_
          rintro e w' ⟨rfl, hw⟩; subst w'
          go_wp2_with fail
          refine (index_any _ _ (n + 1) _ (ins a kd) w2 (by omega) hR2.out hC2 hP2.out).mono ?_
          rintro e w' ⟨he, hw⟩; subst w'; rw [HX2.out] at he; subst he
          go_wp2
          go_ret
          exact ⟨rfl, HB⟩
end Go.Proofs.Qxb6615984a
