import Derived.Test.Qxb6616015aFmtDataB
namespace Go.Proofs.Qxb6616015aFmt
open Go.RowKit

theorem Small.snoc {sv : Nat → Svc} {k : Nat} (h : Small sv k) {s : Svc} (hs : s = sv k) (h0 : s.ns.size ≤ 1048576) (h1 : s.nm.size ≤ 1048576) (h2 : s.pl ≤ 1048576) (h3 : ∀ j, j < s.pl → (s.pn j).size ≤ 1048576) : Small sv (k + 1) := by
  intro i hi
  by_cases e : i = k
  · subst e; rw [← hs]; exact ⟨h0, h1, h2, h3⟩
  · exact h i (by omega)

/-- a bool was returned, and where it is true p holds -/
def Bul (p : Prop) (e : Ending) : Prop := ∃ r : Bool, e = .returned (.bool r) ∧ (r = true → p)
theorem Bul.no {p : Prop} : Bul p (.returned (.bool false)) := ⟨false, rfl, fun h => by cases h⟩
theorem Bul.yes {p : Prop} (h : p) : Bul p (.returned (.bool true)) := ⟨true, rfl, fun _ => h⟩

set_option maxRecDepth 8000 in
set_option maxHeartbeats 2000000 in
theorem zz3_any (port : Int) (ns nm : ByteArray) (a : Option Addr) (n cap : Nat) (x : Int) (pnm : ByteArray) (sv : Nat → Svc) (w : World) (hs : Svcs w a n sv) :
    Calls Tryf.prog 5 #[.int .i64 port, .string ns, .string nm, .slice a n cap, .int .i64 x, .string pnm] w fun e w' => Bul (ns.size ≤ 1048576 ∧ nm.size ≤ 1048576 ∧ n ≤ 1048576 ∧ pnm.size ≤ 1048576 ∧ Small sv n) e ∧ w' = w := by
  go_enter Tryf.func5, Tryf.ntmps5
  go_wp2
  any_goals (go_ret; exact ⟨Bul.no, rfl⟩)
  go_loop [13, 14] (fun x i => ∃ (k : Nat) (z : Int), k ≤ n ∧ 0 ≤ z ∧ z ≤ 1048576 ∧ i = .int .i64 k ∧ x = .int .i64 z ∧ Hid (Small sv k)) (fun _ i => n - (intOf i).toNat)
  case atStart => exact ⟨0, _, by omega, by omega, by omega, rfl, rfl, fun i h => by omega⟩
  case round =>
    obtain ⟨k, z, hk, hz0, hz1, rfl, rfl, HM⟩ := hrel
    by_cases hlt : k < n
    · rcases hs with h0 | ⟨b, off, rfl, hb, hc⟩
      · omega
      obtain ⟨c0, c1, c2, P⟩ := hc k hlt
      clear hc
      obtain ⟨s, hsk⟩ : ∃ s, s = sv k := ⟨_, rfl⟩
      rw [← hsk] at c0 c1 c2 P
      have HK : Hid (s = sv k) := hsk
      clear hsk
      obtain ⟨sns, snm, pa, pl, pc, pn, pp⟩ := s
      simp only at c0 c1 c2
      simp only [Prts] at P
      go_wp2
      any_goals (go_ret; exact ⟨Bul.no, rfl⟩)
      go_loop [13, 15] (fun x i => ∃ (j : Nat) (y : Int), j ≤ pl ∧ 0 ≤ y ∧ y ≤ 1048576 ∧ i = .int .i64 j ∧ x = .int .i64 y ∧ Hid (∀ t, t < j → (pn t).size ≤ 1048576)) (fun _ i => pl - (intOf i).toNat)
      case atStart => exact ⟨0, _, by omega, by omega, by omega, rfl, rfl, fun i h => by omega⟩
      case round =>
        obtain ⟨j, y, hj, hy0, hy1, rfl, rfl, HN⟩ := hrel
        by_cases hjl : j < pl
        · rcases P with h0 | ⟨pb, po, rfl, hpb, hpc⟩
          · omega
          obtain ⟨d0, _⟩ := hpc j hjl
          clear hpc
          go_wp2
          any_goals (go_ret; exact ⟨Bul.no, rfl⟩)
          go_round
          case rel => exact ⟨j + 1, _, by omega, by omega, by omega, by go_num, rfl, fun t ht => by by_cases e : t = j; (subst e; omega); exact HN.out t (by omega)⟩
          case measure => simp [intOf]; omega
        · go_wp2
          go_round
          case rel =>
            have e0 : sns.size ≤ 1048576 := by omega
            have e1 : snm.size ≤ 1048576 := by omega
            have e2 : pl ≤ 1048576 := by omega
            have e3 : ∀ t, t < pl → (pn t).size ≤ 1048576 := fun t ht => HN.out t (by omega)
            exact ⟨k + 1, y, by omega, by omega, by omega, by go_num, rfl, Small.snoc HM.out HK.out e0 e1 e2 e3⟩
          case measure => simp [intOf]; omega
    · have hkk : n = k := by omega
      subst hkk
      clear hlt hk
      go_wp2
      any_goals (go_ret; exact ⟨Bul.no, rfl⟩)
      go_ret
      exact ⟨Bul.yes ⟨by omega, by omega, by omega, by omega, HM.out⟩, rfl⟩

set_option maxRecDepth 8000 in
set_option maxHeartbeats 4000000 in
theorem zz4_any (port : Int) (ns nm : ByteArray) (a : Option Addr) (n cap : Nat) (a' : Option Addr) (n' cap' : Nat) (sv sv' : Nat → Svc) (w : World) (hs : Svcs w a n sv) (hs' : Svcs w a' n' sv') :
    Calls Tryf.prog 15 #[.int .i64 port, .string ns, .string nm, .slice a n cap, .slice a' n' cap'] w fun e w' => Bul (ns.size ≤ 1048576 ∧ nm.size ≤ 1048576 ∧ n ≤ 1048576 ∧ n' ≤ 1048576 ∧ Small sv n ∧ Small sv' n') e ∧ w' = w := by
  go_enter Tryf.func15, Tryf.ntmps15
  go_wp2
  any_goals (go_ret; exact ⟨Bul.no, rfl⟩)
  go_loop [11, 12] (fun x i => ∃ (k : Nat) (z : Int), k ≤ n ∧ 0 ≤ z ∧ z ≤ 1048576 ∧ i = .int .i64 k ∧ x = .int .i64 z ∧ Hid (Small sv k)) (fun _ i => n - (intOf i).toNat)
  case atStart => exact ⟨0, _, by omega, by omega, by omega, rfl, rfl, fun i h => by omega⟩
  case round =>
    obtain ⟨k, z, hk, hz0, hz1, rfl, rfl, HM⟩ := hrel
    by_cases hlt : k < n
    · rcases hs with h0 | ⟨b, off, rfl, hb, hc⟩
      · omega
      obtain ⟨c0, c1, c2, P⟩ := hc k hlt
      clear hc
      obtain ⟨s, hsk⟩ : ∃ s, s = sv k := ⟨_, rfl⟩
      rw [← hsk] at c0 c1 c2 P
      have HK : Hid (s = sv k) := hsk
      clear hsk
      obtain ⟨sns, snm, pa, pl, pc, pn, pp⟩ := s
      simp only at c0 c1 c2
      simp only [Prts] at P
      go_wp2
      any_goals (go_ret; exact ⟨Bul.no, rfl⟩)
      go_loop [11, 13] (fun x i => ∃ (j : Nat) (y : Int), j ≤ pl ∧ 0 ≤ y ∧ y ≤ 1048576 ∧ i = .int .i64 j ∧ x = .int .i64 y ∧ Hid (∀ t, t < j → (pn t).size ≤ 1048576)) (fun _ i => pl - (intOf i).toNat)
      case atStart => exact ⟨0, _, by omega, by omega, by omega, rfl, rfl, fun i h => by omega⟩
      case round =>
        obtain ⟨j, y, hj, hy0, hy1, rfl, rfl, HN⟩ := hrel
        by_cases hjl : j < pl
        · rcases P with h0 | ⟨pb, po, rfl, hpb, hpc⟩
          · omega
          obtain ⟨d0, _⟩ := hpc j hjl
          clear hpc
          go_wp2
          any_goals (go_ret; exact ⟨Bul.no, rfl⟩)
          go_round
          case rel => exact ⟨j + 1, _, by omega, by omega, by omega, by go_num, rfl, fun t ht => by by_cases e : t = j; (subst e; omega); exact HN.out t (by omega)⟩
          case measure => simp [intOf]; omega
        · go_wp2
          go_round
          case rel =>
            have e0 : sns.size ≤ 1048576 := by omega
            have e1 : snm.size ≤ 1048576 := by omega
            have e2 : pl ≤ 1048576 := by omega
            have e3 : ∀ t, t < pl → (pn t).size ≤ 1048576 := fun t ht => HN.out t (by omega)
            exact ⟨k + 1, y, by omega, by omega, by omega, by go_num, rfl, Small.snoc HM.out HK.out e0 e1 e2 e3⟩
          case measure => simp [intOf]; omega
    · have hkk : n = k := by omega
      subst hkk
      clear hlt hk
      obtain ⟨HM1, hh⟩ : ∃ HM1 : Hid (Small sv n), True := ⟨HM, trivial⟩
      clear hh HM
      go_wp2
      any_goals (go_ret; exact ⟨Bul.no, rfl⟩)
      go_loop [11, 14] (fun x i => ∃ (k : Nat) (z : Int), k ≤ n' ∧ 0 ≤ z ∧ z ≤ 1048576 ∧ i = .int .i64 k ∧ x = .int .i64 z ∧ Hid (Small sv' k)) (fun _ i => n' - (intOf i).toNat)
      case atStart => exact ⟨0, _, by omega, by omega, by omega, rfl, rfl, fun i h => by omega⟩
      case round =>
        obtain ⟨k, z, hk, hz0, hz1, rfl, rfl, HM⟩ := hrel
        by_cases hlt : k < n'
        · rcases hs' with h0 | ⟨b, off, rfl, hb, hc⟩
          · omega
          obtain ⟨c0, c1, c2, P⟩ := hc k hlt
          clear hc
          obtain ⟨s, hsk⟩ : ∃ s, s = sv' k := ⟨_, rfl⟩
          rw [← hsk] at c0 c1 c2 P
          have HK : Hid (s = sv' k) := hsk
          clear hsk
          obtain ⟨sns, snm, pa, pl, pc, pn, pp⟩ := s
          simp only at c0 c1 c2
          simp only [Prts] at P
          go_wp2
          any_goals (go_ret; exact ⟨Bul.no, rfl⟩)
          go_loop [11, 15] (fun x i => ∃ (j : Nat) (y : Int), j ≤ pl ∧ 0 ≤ y ∧ y ≤ 1048576 ∧ i = .int .i64 j ∧ x = .int .i64 y ∧ Hid (∀ t, t < j → (pn t).size ≤ 1048576)) (fun _ i => pl - (intOf i).toNat)
          case atStart => exact ⟨0, _, by omega, by omega, by omega, rfl, rfl, fun i h => by omega⟩
          case round =>
            obtain ⟨j, y, hj, hy0, hy1, rfl, rfl, HN⟩ := hrel
            by_cases hjl : j < pl
            · rcases P with h0 | ⟨pb, po, rfl, hpb, hpc⟩
              · omega
              obtain ⟨d0, _⟩ := hpc j hjl
              clear hpc
              go_wp2
              any_goals (go_ret; exact ⟨Bul.no, rfl⟩)
              go_round
              case rel => exact ⟨j + 1, _, by omega, by omega, by omega, by go_num, rfl, fun t ht => by by_cases e : t = j; (subst e; omega); exact HN.out t (by omega)⟩
              case measure => simp [intOf]; omega
            · go_wp2
              go_round
              case rel =>
                have e0 : sns.size ≤ 1048576 := by omega
                have e1 : snm.size ≤ 1048576 := by omega
                have e2 : pl ≤ 1048576 := by omega
                have e3 : ∀ t, t < pl → (pn t).size ≤ 1048576 := fun t ht => HN.out t (by omega)
                exact ⟨k + 1, y, by omega, by omega, by omega, by go_num, rfl, Small.snoc HM.out HK.out e0 e1 e2 e3⟩
              case measure => simp [intOf]; omega
        · have hkk : n' = k := by omega
          subst hkk
          clear hlt hk
          go_wp2
          go_ret
          exact ⟨Bul.yes ⟨by omega, by omega, by omega, by omega, HM1.out, HM.out⟩, rfl⟩

end Go.Proofs.Qxb6616015aFmt
