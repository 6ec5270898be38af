import Derived.Test.Qxb6616015aFmtProg
import Derived.WalkKit
import Derived.WalkSpells
import Derived.WalkLawsBesides
import Derived.Below
import Derived.Deep.OwnRows
namespace Go.Proofs.Qxb6616015aFmt
open Go.RowKit

/-- a Service as the law draws it: its two names, the value of its ports' slice, its ports -/
structure Svc where
  ns : ByteArray
  nm : ByteArray
  pa : Option Addr
  pl : Nat
  pc : Nat
  pn : Nat → ByteArray
  pp : Nat → Int

/-- the ports lie in memory -/
def Prts (w : World) (s : Svc) : Prop :=
  s.pl = 0 ∨ ∃ b off, s.pa = some ⟨b, off, none⟩ ∧ b < w.heap.size ∧ ∀ j, j < s.pl → w.cell? ⟨b, off + j * 2, none⟩ = some (.string (s.pn j)) ∧ w.cell? ⟨b, off + j * 2 + 1, none⟩ = some (.int .i64 (s.pp j))
/-- the services lie in memory -/
def Svcs (w : World) (a : Option Addr) (n : Nat) (sv : Nat → Svc) : Prop :=
  n = 0 ∨ ∃ b off, a = some ⟨b, off, none⟩ ∧ b < w.heap.size ∧ ∀ i, i < n →
    w.cell? ⟨b, off + i * 3, none⟩ = some (.string (sv i).ns) ∧ w.cell? ⟨b, off + i * 3 + 1, none⟩ = some (.string (sv i).nm) ∧ w.cell? ⟨b, off + i * 3 + 2, none⟩ = some (.slice (sv i).pa (sv i).pl (sv i).pc) ∧ Prts w (sv i)

theorem Prts.below {w w' : World} {s : Svc} (h : Prts w s) (hb : Below w.heap.size w w') : Prts w' s := by
  rcases h with h | ⟨b, off, h1, h2, h3⟩
  · exact .inl h
  · refine .inr ⟨b, off, h1, Nat.lt_of_lt_of_le h2 hb.size, fun j hj => ?_⟩
    rw [hb.cell (p := ⟨b, off + j * 2, none⟩) h2, hb.cell (p := ⟨b, off + j * 2 + 1, none⟩) h2]
    exact h3 j hj
theorem Svcs.below {w w' : World} {a : Option Addr} {n : Nat} {sv : Nat → Svc} (h : Svcs w a n sv) (hb : Below w.heap.size w w') : Svcs w' a n sv := by
  rcases h with h | ⟨b, off, h1, h2, h3⟩
  · exact .inl h
  · refine .inr ⟨b, off, h1, Nat.lt_of_lt_of_le h2 hb.size, fun i hi => ?_⟩
    obtain ⟨c0, c1, c2, c3⟩ := h3 i hi
    rw [hb.cell (p := ⟨b, off + i * 3, none⟩) h2, hb.cell (p := ⟨b, off + i * 3 + 1, none⟩) h2, hb.cell (p := ⟨b, off + i * 3 + 2, none⟩) h2]
    exact ⟨c0, c1, c2, c3.below hb⟩

/-- the first place from i on that p holds of; n: how many are left -/
def fnd (p : Nat → Bool) : Nat → Nat → Option Nat
  | 0, _ => none
  | n + 1, i => if p i then some i else fnd p n (i + 1)
def wi : Option Nat → Int
  | none => -1
  | some j => j
def isSv (ns nm : ByteArray) (s : Svc) : Bool := s.ns.toList == ns.toList && s.nm.toList == nm.toList
theorem fnd_hit {p : Nat → Bool} {n i : Nat} (h : p i = true) : fnd p (n + 1) i = some i := by simp [fnd, h]
theorem fnd_miss {p : Nat → Bool} {n i : Nat} (h : p i = false) : fnd p (n + 1) i = fnd p n (i + 1) := by simp [fnd, h]

set_option maxHeartbeats 400000 in
theorem find_any (a : Option Addr) (n cap : Nat) (sv : Nat → Svc) (ns nm : ByteArray) (w : World) (hn : n ≤ 1048576) (hs : Svcs w a n sv) :
    Calls Tryf.prog 8 #[.slice a n cap, .string ns, .string nm] w fun e w' => e = .returned (.int .i64 (wi (fnd (fun i => isSv ns nm (sv i)) n 0))) ∧ w' = w := by
  go_enter Tryf.func8, Tryf.ntmps8
  go_wp2
  go_loop [7] (fun i => ∃ k : Nat, k ≤ n ∧ i = .int .i64 k ∧ Hid (fnd (fun i => isSv ns nm (sv i)) (n - k) k = fnd (fun i => isSv ns nm (sv i)) n 0)) (fun i => n - (intOf i).toNat)
  case atStart => exact ⟨0, by omega, rfl, rfl⟩
  case round =>
    obtain ⟨k, hk, rfl, H⟩ := hrel
    by_cases hlt : k < n
    · rcases hs with h0 | ⟨b, off, rfl, hb, hc⟩
      · omega
      obtain ⟨c0, c1, _, _⟩ := hc k hlt
      clear hc
      have HS : Hid (n - k = (n - (k + 1)) + 1) := by show n - k = _; omega
      by_cases h1 : ((sv k).ns.toList == ns.toList) = true
      · by_cases h2 : ((sv k).nm.toList == nm.toList) = true
        · have hh : Hid (isSv ns nm (sv k) = true) := by show isSv ns nm (sv k) = true; simp [isSv, h1, h2]
          go_wp2
          go_ret
          refine ⟨?_, rfl⟩
          have := H.out
          rw [HS.out, fnd_hit hh.out] at this
          rw [← this]; rfl
        · have h2' : ((sv k).nm.toList == nm.toList) = false := by simpa using h2
          clear h2
          have hh : Hid (isSv ns nm (sv k) = false) := by show isSv ns nm (sv k) = false; simp [isSv, h2']
          go_wp2
          go_round
          case rel => exact ⟨k + 1, by omega, by go_num, by have := H.out; rw [HS.out, fnd_miss hh.out] at this; exact this⟩
          case measure => simp [intOf]; omega
      · have h1' : ((sv k).ns.toList == ns.toList) = false := by simpa using h1
        clear h1
        have hh : Hid (isSv ns nm (sv k) = false) := by show isSv ns nm (sv k) = false; simp [isSv, h1']
        go_wp2
        go_round
        case rel => exact ⟨k + 1, by omega, by go_num, by have := H.out; rw [HS.out, fnd_miss hh.out] at this; exact this⟩
        case measure => simp [intOf]; omega
    · go_wp2
      go_ret
      refine ⟨?_, rfl⟩
      have := H.out
      rw [show n - k = 0 by omega] at this
      rw [← this]; rfl

theorem fnd_lt {p : Nat → Bool} : ∀ (n i j : Nat), fnd p n i = some j → i ≤ j ∧ j < i + n ∧ p j = true
  | 0, _, _, h => by simp [fnd] at h
  | n + 1, i, j, h => by
    simp only [fnd] at h
    split at h
    · rename_i hp
      simp at h
      subst h
      exact ⟨by omega, by omega, hp⟩
    · have := fnd_lt n (i + 1) j h
      exact ⟨by omega, by omega, this.2.2⟩
theorem fnd_none {p : Nat → Bool} : ∀ (n i : Nat), fnd p n i = none → ∀ j, i ≤ j → j < i + n → p j = false
  | 0, _, _, j, h1, h2 => by omega
  | n + 1, i, h, j, h1, h2 => by
    simp only [fnd] at h
    split at h
    · simp at h
    · rename_i hp
      by_cases e : i = j
      · subst e; simpa using hp
      · exact fnd_none n (i + 1) h j (by omega) (by omega)

/-- does the service declare the port? -/
def hasP (s : Svc) (port : Int) : Bool := (fnd (fun j => s.pp j == port) s.pl 0).isSome
def decl (sv : Nat → Svc) (n : Nat) (ns nm : ByteArray) (port : Int) : Bool :=
  match fnd (fun i => isSv ns nm (sv i)) n 0 with
  | none => false
  | some k => hasP (sv k) port

set_option maxHeartbeats 400000 in
theorem inRange_any (port : Int) (w : World) :
    Calls Tryf.prog 12 #[.int .i64 port] w fun e w' => e = .returned (.bool (decide (1 ≤ port) && decide (port ≤ 65535))) ∧ w' = w := by
  by_cases h : 1 ≤ port
  · go_enter Tryf.func12, Tryf.ntmps12
    go_wp2
    go_ret
    exact ⟨by simp [h], rfl⟩
  · have h' : decide (1 ≤ port) = false := by simpa using h
    go_enter Tryf.func12, Tryf.ntmps12
    go_wp2
    go_ret
    exact ⟨by simp, rfl⟩

set_option maxHeartbeats 400000 in
theorem declares_any (a : Option Addr) (n cap : Nat) (sv : Nat → Svc) (ns nm : ByteArray) (port : Int) (w : World) (hn : n ≤ 1048576) (hp : ∀ i, i < n → (sv i).pl ≤ 1048576) (hs : Svcs w a n sv) :
    Calls Tryf.prog 13 #[.slice a n cap, .string ns, .string nm, .int .i64 port] w fun e w' => e = .returned (.bool (decl sv n ns nm port)) ∧ w' = w := by
  have hcall := find_any a n cap sv ns nm w hn hs
  have hlt := fnd_lt (p := fun i => isSv ns nm (sv i)) n 0
  unfold decl
  generalize fnd (fun i => isSv ns nm (sv i)) n 0 = r at hcall hlt
  rcases r with _ | k
  · clear hlt hp hs
    simp only [wi] at hcall
    go_enter Tryf.func13, Tryf.ntmps13
    go_wp2_with (go_at_call 8; refine hcall.mono ?_; rintro e w' ⟨rfl, hw⟩; subst w')
    go_ret
    exact ⟨rfl, rfl⟩
  · have hk := (hlt k rfl).2.1
    have hpk := hp k (by omega)
    clear hlt hp
    simp only [wi] at hcall
    rcases hs with h0 | ⟨b, off, rfl, hb, hc⟩
    · omega
    obtain ⟨_, _, c2, P⟩ := hc k (by omega)
    clear hc
    show Calls Tryf.prog 13 _ w fun e w' => e = .returned (.bool (hasP (sv k) port)) ∧ w' = w
    generalize hsk : sv k = s at *
    clear hsk
    obtain ⟨sns, snm, pa, pl, pc, pn, pp⟩ := s
    simp only at c2 hpk
    show Calls Tryf.prog 13 _ w fun e w' => e = .returned (.bool (fnd (fun j => pp j == port) pl 0).isSome) ∧ w' = w
    simp only [Prts] at P
    go_enter Tryf.func13, Tryf.ntmps13
    go_wp2_with (go_at_call 8; refine hcall.mono ?_; rintro e w' ⟨rfl, hw⟩; subst w')
    go_loop [11] (fun i => ∃ k : Nat, k ≤ pl ∧ i = .int .i64 k ∧ Hid (fnd (fun j => pp j == port) (pl - k) k = fnd (fun j => pp j == port) pl 0)) (fun i => pl - (intOf i).toNat)
    case atStart => exact ⟨0, by omega, rfl, rfl⟩
    case round =>
      obtain ⟨j, hj, rfl, H⟩ := hrel
      by_cases hlt : j < pl
      · rcases P with h0 | ⟨pb, po, rfl, hpb, hpc⟩
        · omega
        obtain ⟨_, d1⟩ := hpc j hlt
        clear hpc
        have HS : Hid (pl - j = (pl - (j + 1)) + 1) := by show pl - j = _; omega
        by_cases h1 : (pp j == port) = true
        · go_wp2
          go_ret
          refine ⟨?_, rfl⟩
          have := H.out
          rw [HS.out, fnd_hit h1] at this
          rw [← this]; rfl
        · have h1' : (pp j == port) = false := by simpa using h1
          clear h1
          go_wp2
          go_round
          case rel => exact ⟨j + 1, by omega, by go_num, by have := H.out; rw [HS.out, fnd_miss h1'] at this; exact this⟩
          case measure => simp [intOf]; omega
      · go_wp2
        go_ret
        refine ⟨?_, rfl⟩
        have := H.out
        rw [show pl - j = 0 by omega] at this
        rw [← this]; rfl
end Go.Proofs.Qxb6616015aFmt
