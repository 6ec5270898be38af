import Derived.Test.Qxb6615984aProg
import Derived.WalkKit
import Derived.WalkSpells
import Derived.WalkLawsBesides
import Derived.Below
import Derived.Deep.OwnRows
import Derived.LaidEqlPtr
namespace Go.Proofs.Qxb6615984a
open Go.RowKit

/-- the block of context i of a chain of m whose outermost block is c -/
def bk (c m i : Nat) : Nat := c + (m - 1 - i)
/-- the pointer to context i; nil behind the last -/
def ptr (c m i : Nat) : Option Addr := if i < m then some ⟨bk c m i, 0, none⟩ else none
theorem ptr_lt {c m i : Nat} (h : i < m) : ptr c m i = some ⟨bk c m i, 0, none⟩ := if_pos h
theorem ptr_ge {c m i : Nat} (h : ¬ i < m) : ptr c m i = none := if_neg h
/-- the block of a new context -/
def ctxObj (o : Option Addr) (h : Int) : Obj :=
  .cells #[.pointer o, .pointer none, .int .u8 h, .pointer none, .string ByteArray.empty, .slice none 0 0, .bool false, .map none, .slice none 0 0] 52

/-- the chain lies in memory -/
def Chn (w : World) (c m : Nat) (k : Nat → Int) : Prop :=
  ∀ i, i < m → w.heap[bk c m i]? = some (ctxObj (ptr c m (i + 1)) (k i))
theorem cell_of_heap {w : World} {b : Nat} {cs : Array Value} {t : TypeId} {fr : Nat × Nat} (h : w.heap[b]? = some (.cells cs t fr)) (i : Nat) : w.cell? ⟨b, i, none⟩ = cs[i]? := by
  simp [World.cell?, h]
theorem Chn.cells {w : World} {c m : Nat} {k : Nat → Int} (h : Chn w c m k) {i : Nat} (hi : i < m) :
    w.cell? ⟨bk c m i, 0, none⟩ = some (.pointer (ptr c m (i + 1))) ∧ w.cell? ⟨bk c m i, 2, none⟩ = some (.int .u8 (k i)) := by
  have := h i hi
  unfold ctxObj at this
  rw [cell_of_heap this, cell_of_heap this]
  exact ⟨rfl, rfl⟩
/-- the first handler from i on, as a place; n: how many contexts are left -/
def near (k : Nat → Int) : Nat → Nat → Option Nat
  | 0, _ => none
  | n + 1, i => if k i = 0 then near k n (i + 1) else some i
def ptrOf (c m : Nat) : Option Nat → Option Addr
  | none => none
  | some j => some ⟨bk c m j, 0, none⟩
def mz : Value → Nat
  | .pointer (some a) => a.block + 1
  | _ => 0
theorem near_step {k : Nat → Int} {n i : Nat} (h : (k i == 0) = true) : near k (n + 1) i = near k n (i + 1) := by
  simp only [near]; rw [if_pos (by simpa using h)]
theorem near_hit {k : Nat → Int} {n i : Nat} (h : (k i == 0) = false) : near k (n + 1) i = some i := by
  simp only [near]; rw [if_neg (by simpa using h)]
theorem near_lt {k : Nat → Int} : ∀ (n i j : Nat), near k n i = some j → i ≤ j ∧ j < i + n ∧ k j ≠ 0
  | 0, _, _, h => by simp [near] at h
  | n + 1, i, j, h => by
    simp only [near] at h
    split at h
    · have := near_lt n (i + 1) j h
      omega
    · rename_i hk
      simp at h
      subst h
      exact ⟨by omega, by omega, hk⟩

set_option maxHeartbeats 400000 in
theorem nearest_any (c m : Nat) (k : Nat → Int) (i0 : Nat) (w : World) (hi : i0 ≤ m) (hc : Chn w c m k) :
    Calls Try.prog 22 #[.pointer (ptr c m i0)] w fun e w' => e = .returned (.pointer (ptrOf c m (near k (m - i0) i0))) ∧ w' = w := by
  go_enter Try.func22, Try.ntmps22
  go_wp2
  go_loop [0] (fun p => ∃ i : Nat, i ≤ m ∧ p = .pointer (ptr c m i) ∧ Hid (near k (m - i) i = near k (m - i0) i0)) (fun p => mz p)
  case atStart => exact ⟨i0, hi, rfl, rfl⟩
  case round =>
    obtain ⟨i, him, rfl, H⟩ := hrel
    by_cases hlt : i < m
    · obtain ⟨h0, h2⟩ := hc.cells hlt
      have HC : Hid (Chn w c m k) := hc
      clear hc
      rw [ptr_lt hlt]
      have hn : m - i = (m - (i + 1)) + 1 := by omega
      have HN : Hid (m - i = (m - (i + 1)) + 1) := hn
      clear hn
      by_cases hk : (k i == 0) = true
      · go_wp2
        go_round
        case rel => exact ⟨i + 1, by omega, rfl, by have := H.out; rw [HN.out, near_step hk] at this; exact this⟩
        case measure =>
          simp [mz, bk]
          by_cases h' : i + 1 < m
          · simp [ptr_lt h', bk]; omega
          · simp [ptr_ge h']
      · have hk' : (k i == 0) = false := by simpa using hk
        clear hk
        go_wp2
        go_ret
        refine ⟨?_, rfl⟩
        have := H.out; rw [HN.out, near_hit hk'] at this
        rw [← this]; rfl
    · rw [ptr_ge hlt]
      go_wp2
      go_ret
      refine ⟨?_, rfl⟩
      have := H.out
      rw [show m - i = 0 by omega] at this
      rw [← this]; rfl

/-- the rethrow handler's place -/
def rthOf (k : Nat → Int) : Option Nat → Option Nat
  | none => none
  | some j => if k j = 1 then some j else none
def rth (k : Nat → Int) (n i : Nat) : Option Nat := rthOf k (near k n i)

set_option maxHeartbeats 400000 in
theorem rethrow_any (c m : Nat) (k : Nat → Int) (i0 : Nat) (w : World) (hi : i0 ≤ m) (hc : Chn w c m k) :
    Calls Try.prog 9 #[.pointer (ptr c m i0)] w fun e w' => e = .returned (.pointer (ptrOf c m (rth k (m - i0) i0))) ∧ w' = w := by
  have hcall := nearest_any c m k i0 w hi hc
  have hlt := near_lt (k := k) (m - i0) i0
  unfold rth
  generalize near k (m - i0) i0 = r at hcall hlt
  rcases r with _ | j
  · have HH : Hid (∀ j, none = some j → i0 ≤ j ∧ j < i0 + (m - i0) ∧ k j ≠ 0) := hlt
    clear hlt
    have HC : Hid (Chn w c m k) := hc
    clear hc
    go_enter Try.func9, Try.ntmps9
    go_wp2_with (go_at_call 22; refine hcall.mono ?_; rintro e w' ⟨rfl, rfl⟩)
    go_ret
    exact ⟨rfl, rfl⟩
  · obtain ⟨hj1, hj2, hj3⟩ := hlt j rfl
    obtain ⟨h0, h2⟩ := hc.cells (i := j) (by omega)
    have HC : Hid (Chn w c m k) := hc
    clear hc hlt h0
    simp only [ptrOf] at hcall
    by_cases hk : (k j == 1) = true
    · have hr : ptrOf c m (rthOf k (some j)) = some ⟨bk c m j, 0, none⟩ := by simp only [rthOf]; rw [if_pos (by simpa using hk)]; rfl
      rw [hr]
      clear hr
      have hj3' : (k j == 0) = false := by simpa using hj3
      go_enter Try.func9, Try.ntmps9
      go_wp2_with (go_at_call 22; refine hcall.mono ?_; rintro e w' ⟨rfl, rfl⟩)
      go_ret
      exact ⟨rfl, rfl⟩
    · have hk' : (k j == 1) = false := by simpa using hk
      have hr : ptrOf c m (rthOf k (some j)) = none := by simp only [rthOf]; rw [if_neg (by simpa using hk)]; rfl
      rw [hr]
      clear hr hk
      go_enter Try.func9, Try.ntmps9
      go_wp2_with (go_at_call 22; refine hcall.mono ?_; rintro e w' ⟨rfl, rfl⟩)
      go_ret
      exact ⟨rfl, rfl⟩

set_option maxHeartbeats 400000 in
theorem newctx_any (o : Option Addr) (h : Int) (w : World) :
    Calls Try.prog 21 #[.pointer o, .int .u8 h] w fun e w' => e = .returned (.pointer (some ⟨w.heap.size, 0, none⟩)) ∧ w' = w.alloc (ctxObj o h) := by
  go_enter Try.func21, Try.ntmps21
  go_wp2
  go_ret
  exact ⟨rfl, rfl⟩

theorem info52_ex : ∃ i, Try.prog.info? 52 = some i ∧ i.size ≠ 0 := by
  have h : (Try.prog.info? 52).map (fun i => decide (i.size ≠ 0)) = some true := by kernel_rfl
  obtain ⟨i, hi, hz⟩ := Option.map_eq_some_iff.1 h
  exact ⟨i, hi, by simpa using hz⟩
theorem equal_same (a : Addr) (w : World) : (Op.equal 26 (.pointer (some a)) (.pointer (some a))).run Try.prog w = .ok true w := by
  obtain ⟨j, hj, _⟩ := info52_ex
  have h : ∀ d : Nat, (Op.equalIn (d + 1) 26 (.pointer (some a)) (.pointer (some a))).run Try.prog w = .ok true w := fun d => by
    simp [Op.equalIn, run_underlying Try.underlying26, sizeOf, typeInfo, hj, run_sameAddr_same]
  simp [Op.equal, Op.maxDepth, h 9999]
theorem equal_other {a b : Addr} {ca cb : Array Value} {ta tb : TypeId} (w : World) (hne : a ≠ b) (ha : w.heap[a.block]? = some (.cells ca ta (0, 0))) (hb : w.heap[b.block]? = some (.cells cb tb (0, 0))) :
    (Op.equal 26 (.pointer (some a)) (.pointer (some b))).run Try.prog w = .ok false w := by
  obtain ⟨j, hj, hz⟩ := info52_ex
  have h : ∀ d : Nat, (Op.equalIn (d + 1) 26 (.pointer (some a)) (.pointer (some b))).run Try.prog w = .ok false w := fun d => by
    simp [Op.equalIn, run_underlying Try.underlying26, sizeOf, typeInfo, hj, hz, run_sameAddr_other w hne ha hb]
  simp [Op.equal, Op.maxDepth, h 9999]
theorem eql_same (a : Addr) (w : World) : (binOp .eql 26 (.pointer (some a)) (.pointer (some a))).run Try.prog w = .ok (.bool true) w := by
  simp only [binOp]
  simp [equal_same a w]
theorem eql_other {a b : Addr} {ca cb : Array Value} {ta tb : TypeId} (w : World) (hne : a ≠ b) (ha : w.heap[a.block]? = some (.cells ca ta (0, 0))) (hb : w.heap[b.block]? = some (.cells cb tb (0, 0))) :
    (binOp .eql 26 (.pointer (some a)) (.pointer (some b))).run Try.prog w = .ok (.bool false) w := by
  simp only [binOp]
  simp [equal_other w hne ha hb]
theorem neq_same (X : Option Addr) (w : World) : (binOp .neq 26 (.pointer X) (.pointer X)).run Try.prog w = .ok (.bool false) w := by
  rcases X with _ | a
  · rw [run_neq_pointer_nil w 26 none (by kernel_rfl)]; rfl
  · simp only [binOp]
    simp [equal_same a w]
end Go.Proofs.Qxb6615984a
