import Derived.Test.Qxb6615962aFmtItB
import Derived.Test.Qxb6615962aFmtItR
import Derived.Shelf.Abstract
import Derived.Shelf.RegionOpen
import Derived.WalkKit
import Derived.OwnWalkIn
import Derived.TacticsInMore
import Derived.LoopNIn
import Derived.LoopIn
namespace Go.Proofs.Qxb6615962aFmt
open Go.RowKit Go.Shelf
attribute [local go_sem] Oper.semAt_some

/-- what a round keeps: what lay below n₀, and the boxes of year sets -/
def Kp (n₀ : Nat) (W W' : World) : Prop := Below n₀ W W' ∧ ∀ (k : Nat) cs fr, W.heap[k]? = some (.cells cs 40 fr) → W'.heap[k]? = some (.cells cs 40 fr)
def encs (x : Int × Int) : Array Value := #[.int .i64 x.1, .int .i64 x.2]
def ms (v : Value) : Nat := if (intOf v).toNat = 0 then 0 else 65 - fstB (intOf v).toNat
theorem ms_nat (y : Nat) : ms (.int .u64 (y : Int)) = if y = 0 then 0 else 65 - fstB y := rfl
theorem Tab64.below {n₀ : Nat} {w w' : World} (h : Tab64 w) (hb : Below n₀ w w') (h0 : 0 < n₀) : Tab64 w' := fun j hj => by
  rw [hb.cell (p := ⟨0, j, none⟩) h0]
  exact h j hj
theorem xor_max (b : Nat) (hb : b < 18446744073709551616) : bits BinOp.xor IntKind.u64 IntKind.u64.max (b : Int) = ((18446744073709551615 - b : Nat) : Int) := by
  show IntKind.u64.wrap ((BitVec.ofInt 64 IntKind.u64.max ^^^ BitVec.ofInt 64 (b : Int)).toNat : Int) = _
  have e : BitVec.ofInt 64 IntKind.u64.max = BitVec.allOnes 64 := by decide +kernel
  rw [e, BitVec.allOnes_xor, BitVec.toNat_not, BitVec.ofInt_natCast, BitVec.toNat_ofNat, IntKind.wrap_u64]
  omega
set_option maxRecDepth 100000 in
set_option maxHeartbeats 2000000 in
theorem runs_in (n : Nat) (hn : 2 ≤ n) (l n₀ : Nat) (h0n : 0 < n₀) (x : Nat) (hx : x < 2 ^ 64) (J : List (Int × Int) → World → Prop)
    (hY : ∀ pre y W1, J pre W1 → pre ++ [y] <+: runsOf x → YieldAt Fence.wide (n - 1) Tryf.prog l (encs y) W1 fun e W' => e = .returned (.bool true) ∧ J (pre ++ [y]) W' ∧ Kp n₀ W1 W')
    (W : World) (hT : Tab64 W) (h0 : J [] W) :
    CallsIn Fence.wide n Tryf.prog 24 #[.int .u64 (x : Int), .func (.yield l) #[] #[]] W fun e W' => (∃ v, e = .returned v) ∧ J (runsOf x) W' := by
  have HY := (show Hid _ from hY)
  clear hY
  refine callsIn_of_wp Tryf.func24 rfl trivial ?_ rfl
  simp only [Tryf.ntmps24, List.size_toArray, List.length_cons, List.length_nil, Nat.reduceAdd, Nat.reduceSub, Array.replicate_succ, Array.replicate_zero, List.push_toArray, List.append_toArray, List.nil_append, List.cons_append]
  gi_wp2
  gi_loopw [0] (fun v wr => ∃ (y fuel : Nat) (pre : List (Int × Int)), v = .int .u64 (y : Int) ∧ y < 2 ^ 64 ∧ pre ++ runsF fuel y = runsOf x ∧ (y = 0 ∨ 64 ≤ fstB y + fuel) ∧ Hid (J pre wr) ∧ Tab64 wr) (fun v _ => ms v)
  case atStart => exact ⟨x, 64, [], rfl, hx, rfl, .inr (by omega), h0, hT⟩
  case round =>
    obtain ⟨y, fuel, pre, rfl, hy, hpre, hfu, HJ, hTr⟩ := hrel
    by_cases hy0 : y = 0
    · subst hy0
      have hnil : runsF fuel 0 = [] := by cases fuel <;> simp [runsF]
      rw [hnil, List.append_nil] at hpre
      gi_wp2
      go_end0
      exact ⟨⟨_, rfl⟩, hpre ▸ HJ.out⟩
    · have hb0 : ((y : Int) == 0) = false := by simp; omega
      have hf64 := fstB_lt y hy0 hy
      obtain ⟨hfl, hl64, hct⟩ := lst_bounds y hy0 hy
      have hpos : 0 < 2 ^ fstB y := Nat.pow_pos (by omega)
      have hdl : y / 2 ^ fstB y < 18446744073709551616 := Nat.lt_of_le_of_lt (Nat.div_le_self _ _) hy
      have hx1 : Hid (bits BinOp.xor IntKind.u64 IntKind.u64.max ((y / 2 ^ fstB y : Nat) : Int) = ((18446744073709551615 - y / 2 ^ fstB y : Nat) : Int)) := xor_max (y / 2 ^ fstB y) hdl
      have hdv : Hid (((y : Int) / 2 ^ fstB y) = ((y / 2 ^ fstB y : Nat) : Int)) := by show ((y : Int) / 2 ^ fstB y) = ((y / 2 ^ fstB y : Nat) : Int); simp
      have c1 : ∀ W, Tab64 W → Calls Tryf.prog 37 #[.int .u64 (y : Int)] W fun e w' => e = .returned (.int .i64 (fstB y : Int)) ∧ w' = W := fun W hW => tz64 y hy W hW
      obtain ⟨t, ht⟩ : ∃ t, t = Lib.ctz 64 (18446744073709551615 - y / 2 ^ fstB y) := ⟨_, rfl⟩
      have c2 : ∀ W, Tab64 W → Calls Tryf.prog 37 #[.int .u64 ((18446744073709551615 - y / 2 ^ fstB y : Nat) : Int)] W fun e w' => e = .returned (.int .i64 (t : Int)) ∧ w' = W := fun W hW => by rw [ht]; exact tz64 (18446744073709551615 - y / 2 ^ fstB y) (Nat.lt_of_le_of_lt (Nat.sub_le _ _) (by decide)) W hW
      have hlt : lstB y = fstB y + t - 1 := by rw [ht]; rfl
      have hw1 : IntKind.i64.wrap ((fstB y : Int) + (t : Int)) = (fstB y : Int) + (t : Int) := by rw [IntKind.wrap_i64]; omega
      have hw2 : IntKind.i64.wrap ((fstB y : Int) + (t : Int) - 1) = (lstB y : Int) := by rw [IntKind.wrap_i64]; omega
      have hN : bits .andNot .u64 (y : Int) (rangeN (fstB y) (lstB y) : Int) = (nxt y : Int) := andNot_u64 y (rangeN (fstB y) (lstB y))
      have hpre2 : pre ++ [(vOf (fstB y), vOf (lstB y))] <+: runsOf x := by
        rw [← hpre]
        cases fuel with
        | zero => exfalso; rcases hfu with h | h <;> omega
        | succ fuel =>
          rw [runsF, if_neg hy0]
          exact ⟨runsF fuel (nxt y), by simp⟩
      have hpre3 : (pre ++ [(vOf (fstB y), vOf (lstB y))]) ++ runsF (fuel - 1) (nxt y) = runsOf x := by
        rw [← hpre]
        cases fuel with
        | zero => exfalso; rcases hfu with h | h <;> omega
        | succ fuel =>
          rw [runsF, if_neg hy0]
          simp
      have hnx := nxt_next y hy0 hy
      have hnl := nxt_lt64 y
      clear ht hlt hct hdl
      obtain ⟨fn, tmps, asg, bdy, hyl, hRR⟩ := HY.out pre (vOf (fstB y), vOf (lstB y)) wr HJ.out hpre2
      dsimp only [encs] at hyl
      gi_wp2_with fail
      refine ⟨trivial, fun _ => by omega, ?_⟩
      refine (callsIn_wide.2 (c1 _ hTr)).mono ?_
      rintro e w' ⟨rfl, rfl⟩
      gi_wp2_with fail
      rw [hdv.out, hx1.out]
      refine ⟨trivial, fun _ => by omega, ?_⟩
      refine (callsIn_wide.2 (c2 _ hTr)).mono ?_
      rintro e w' ⟨rfl, rfl⟩
      gi_wp2_with fail
      refine ⟨trivial, fun _ => by omega, ?_⟩
      refine (callsIn_wide.2 (valueOf_nat (fstB y) _ hf64)).mono ?_
      rintro e w' ⟨rfl, rfl⟩
      gi_wp2_with fail
      refine ⟨trivial, fun _ => by omega, ?_⟩
      refine (callsIn_wide.2 (valueOf_nat (lstB y) _ hl64)).mono ?_
      rintro e w' ⟨rfl, rfl⟩
      gi_wp2_with fail
      refine ⟨trivial, fun _ => by omega, ?_⟩
      refine (callsIn_wide.2 (valueRange_bits (fstB y) (lstB y) hfl hl64 _)).mono ?_
      rintro e w' ⟨rfl, rfl⟩
      gi_wp2_with fail
      refine ⟨fun _ => by omega, ?_⟩
      refine hRR.mono ?_
      rintro e W3 ⟨rfl, hJ3, hk3⟩
      have HJ3 : Hid (J (pre ++ [(vOf (fstB y), vOf (lstB y))]) W3) := hJ3
      have hT3 : Tab64 W3 := hTr.below hk3.1 h0n
      clear hJ3 hk3
      gi_wp2_with fail
      go_roundw
      case rel => exact ⟨nxt y, fuel - 1, _, rfl, hnl, hpre3, by rcases hnx with h | h; exact .inl h; right; rcases hfu with h' | h' <;> omega, HJ3, hT3⟩
      case measure =>
        show ms (.int .u64 (nxt y : Int)) < ms (.int .u64 (y : Int))
        rw [ms_nat, ms_nat, if_neg hy0]
        rcases hnx with h | h
        · rw [h, if_pos rfl]; omega
        · split <;> omega
theorem runs_seq (n : Nat) (hn : 2 ≤ n) (n₀ : Nat) (h0n : 0 < n₀) (x : Nat) (hx : x < 2 ^ 64) (w : World) (hT : Tab64 w) (hw : 0 < w.heap.size) : SeqB Fence.wide n Tryf.prog 24 #[.int .u64 (x : Int)] encs (Kp n₀) (runsOf x) w :=
  fun l J W hb _ hY h0 => runs_in n hn l n₀ h0n x hx J hY W (hT.below hb hw) h0
end Go.Proofs.Qxb6615962aFmt
