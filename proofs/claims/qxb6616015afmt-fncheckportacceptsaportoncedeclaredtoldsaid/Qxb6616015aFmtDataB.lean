import Derived.Test.Qxb6616015aFmtDataA
import Derived.Deep.QuietTactic
import Derived.BigQuiet
namespace Go.Proofs.Qxb6616015aFmt
open Go.RowKit

/-- are the pairs of the two services one? -/
def sameSv (s t : Svc) : Bool := isSv t.ns t.nm s

theorem bcell {W w1 : World} (hb : Below W.heap.size W w1) : (∀ b o, b < W.heap.size → w1.cell? ⟨b, o, none⟩ = W.cell? ⟨b, o, none⟩) ∧ (∀ b o, b < W.heap.size → w1.frozen? ⟨b, o, none⟩ = W.frozen? ⟨b, o, none⟩) :=
  ⟨fun b o h => hb.cell (p := ⟨b, o, none⟩) h, fun b o h => hb.frozen (p := ⟨b, o, none⟩) h⟩

set_option maxHeartbeats 1000000 in
theorem unique_any (a : Option Addr) (n cap : Nat) (sv : Nat → Svc) (w : World) (hn : n ≤ 1048576) (hs : Svcs w a n sv) :
    Calls Tryf.prog 7 #[.slice a n cap] w fun e w' => ∃ r : Bool, e = .returned (.bool r) ∧ (r = true → ∀ i j, i < j → j < n → sameSv (sv i) (sv j) = false) ∧ Below w.heap.size w w' := by
  go_enter Tryf.func7, Tryf.ntmps7
  go_wp2
  go_loopw [3] (fun i wr => ∃ k : Nat, k ≤ n ∧ i = .int .i64 k ∧ Below w.heap.size w wr ∧ Hid (∀ i j, i < k → i < j → j < n → sameSv (sv i) (sv j) = false)) (fun i _ => n - (intOf i).toNat)
  case atStart => exact ⟨0, by omega, rfl, Below.refl _ _, fun i j h => by omega⟩
  case round =>
    obtain ⟨k, hk, rfl, hbel, H⟩ := hrel
    by_cases hlt : k < n
    · go_wp2
      obtain ⟨wo, rfl⟩ : ∃ wo : World, wo = wr := ⟨_, rfl⟩
      go_loopw [4] (fun j wr => ∃ l : Nat, k < l ∧ l ≤ n ∧ j = .int .i64 l ∧ Below w.heap.size w wr ∧ Hid (∀ j, k < j → j < l → sameSv (sv k) (sv j) = false)) (fun j _ => n - (intOf j).toNat)
      case atStart => exact ⟨k + 1, by omega, by omega, by go_num, hbel, fun j h1 h2 => by omega⟩
      case round =>
        obtain ⟨l, hl1, hl2, rfl, hbel1, H1⟩ := hrel
        by_cases hll : l < n
        · rcases hs with h0 | ⟨b, off, rfl, hb, hc⟩
          · omega
          obtain ⟨c0, c1, _, _⟩ := hc k hlt
          obtain ⟨d0, d1, _, _⟩ := hc l hll
          clear hc
          rw [← hbel1.cell (p := ⟨b, _, none⟩) hb] at c0 c1 d0 d1
          by_cases h1 : ((sv k).ns.toList == (sv l).ns.toList) = true
          · by_cases h2 : ((sv k).nm.toList == (sv l).nm.toList) = true
            · go_wp2
              go_quiet (fail)
              go_wp2
              go_ret
              exact ⟨false, rfl, (fun h => by cases h), below_drewN hbel1 _⟩
            · have h2' : ((sv k).nm.toList == (sv l).nm.toList) = false := by simpa using h2
              clear h2
              have hh : sameSv (sv k) (sv l) = false := by simp [sameSv, isSv, h2']
              have HH : Hid (sameSv (sv k) (sv l) = false) := hh
              clear hh
              go_wp2
              go_quiet (fail)
              go_wp2
              go_roundw
              case rel => exact ⟨l + 1, by omega, by omega, by go_num, below_drewN hbel1 _, fun j h1 h2 => by by_cases e : j = l; (subst e; exact HH.out); exact H1.out j h1 (by omega)⟩
              case measure => simp [intOf]; omega
          · have h1' : ((sv k).ns.toList == (sv l).ns.toList) = false := by simpa using h1
            clear h1
            have hh : sameSv (sv k) (sv l) = false := by simp [sameSv, isSv, h1']
            have HH : Hid (sameSv (sv k) (sv l) = false) := hh
            clear hh
            go_wp2
            go_quiet (fail)
            go_wp2
            go_roundw
            case rel => exact ⟨l + 1, by omega, by omega, by go_num, below_drewN hbel1 _, fun j h1 h2 => by by_cases e : j = l; (subst e; exact HH.out); exact H1.out j h1 (by omega)⟩
            case measure => simp [intOf]; omega
        · go_wp2
          go_roundw
          case rel => exact ⟨k + 1, by omega, by go_num, hbel1, fun i j h1 h2 h3 => by by_cases e : i = k; (subst e; exact H1.out j h2 (by omega)); exact H.out i j (by omega) h2 h3⟩
          case measure => simp [intOf]; omega
    · go_wp2
      go_ret
      exact ⟨true, rfl, fun _ i j h1 h2 => H.out i j (by omega) h1 h2, hbel⟩

/-- all lengths are small -/
def Small (sv : Nat → Svc) (n : Nat) : Prop :=
  ∀ i, i < n → (sv i).ns.size ≤ 1048576 ∧ (sv i).nm.size ≤ 1048576 ∧ (sv i).pl ≤ 1048576 ∧ ∀ j, j < (sv i).pl → ((sv i).pn j).size ≤ 1048576

set_option maxHeartbeats 1000000 in
theorem sbytes_any (x0 : Int) (a : Option Addr) (n cap : Nat) (sv : Nat → Svc) (w : World) (hx0 : 0 ≤ x0) (hx1 : x0 ≤ 1073741824) (hn : n ≤ 1048576) (hm : Small sv n) (hs : Svcs w a n sv) :
    Calls Tryf.prog 6 #[.int .i64 x0, .slice a n cap] w fun e w' => ∃ r : Int, e = .returned (.int .i64 r) ∧ 0 ≤ r ∧ r ≤ 4294967296 ∧ Below w.heap.size w w' := by
  have HM : Hid (Small sv n) := hm
  clear hm
  go_enter Tryf.func6, Tryf.ntmps6
  go_wp2
  go_loopw [0, 5] (fun x i wr => ∃ (k : Nat) (z : Int), k ≤ n ∧ 0 ≤ z ∧ z ≤ 1073741824 ∧ i = .int .i64 k ∧ x = .int .i64 z ∧ Below w.heap.size w wr) (fun _ i _ => n - (intOf i).toNat)
  case atStart => exact ⟨0, x0, by omega, hx0, hx1, rfl, rfl, Below.refl _ _⟩
  case round =>
    obtain ⟨k, z, hk, hz0, hz1, rfl, rfl, hbel⟩ := hrel
    by_cases hlt : k < n
    · have hs' := hs.below hbel
      rcases hs' with h0 | ⟨b, off, rfl, hb, hc⟩
      · omega
      obtain ⟨c0, c1, c2, P⟩ := hc k hlt
      obtain ⟨m0, m1, m2, m3⟩ := HM.out k hlt
      clear hc
      have HS : Hid (Svcs w (some ⟨b, off, none⟩) n sv) := hs
      clear hs
      generalize sv k = s at c0 c1 c2 P m0 m1 m2 m3
      obtain ⟨sns, snm, pa, pl, pc, pn, pp⟩ := s
      simp only at c0 c1 c2 m0 m1 m2 m3
      have P' : Prts (wr.alloc (.cells #[.string sns, .string snm, .slice pa pl pc] 29)) ⟨sns, snm, pa, pl, pc, pn, pp⟩ := P.below ((Below.refl _ _).alloc (Nat.le_refl _) _)
      simp only [Prts] at P'
      have hbel1 : Below w.heap.size w (wr.alloc (.cells #[.string sns, .string snm, .slice pa pl pc] 29)) := hbel.alloc hbel.size _
      go_wp2
      go_loop [0, 7] (fun x i => ∃ (j : Nat) (y : Int), j ≤ pl ∧ 0 ≤ y ∧ y ≤ 1100000000 ∧ i = .int .i64 j ∧ x = .int .i64 y) (fun _ i => pl - (intOf i).toNat)
      case atStart => exact ⟨0, z + (56 + ↑sns.size + ↑snm.size), by omega, by omega, by omega, rfl, rfl⟩
      case round =>
        obtain ⟨j, y, hj, hy0, hy1, rfl, rfl⟩ := hrel
        by_cases hjl : j < pl
        · rcases P' with h0 | ⟨pb, po, rfl, hpb, hpc⟩
          · omega
          obtain ⟨d0, _⟩ := hpc j hjl
          have m3' := m3 j hjl
          clear hpc m3
          by_cases hbig : 1048576 < y + (24 + ↑(pn j).size)
          · go_wp2
            go_ret
            exact ⟨y + (24 + ↑(pn j).size), rfl, by omega, by omega, hbel1⟩
          · go_wp2
            go_round
            case rel => exact ⟨j + 1, y + (24 + ↑(pn j).size), by omega, by omega, by omega, by go_num, rfl⟩
            case measure => simp [intOf]; omega
        · by_cases hbig : 1048576 < y
          · go_wp2
            go_ret
            exact ⟨y, rfl, by omega, by omega, hbel1⟩
          · go_wp2
            go_roundw
            case rel => exact ⟨k + 1, y, by omega, by omega, by omega, by go_num, rfl, hbel1⟩
            case measure => simp [intOf]; omega
    · go_wp2
      go_ret
      exact ⟨z, rfl, hz0, by omega, hbel⟩
end Go.Proofs.Qxb6616015aFmt
