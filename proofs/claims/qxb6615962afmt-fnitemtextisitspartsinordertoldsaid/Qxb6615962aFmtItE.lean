import Derived.Test.Qxb6615962aFmtItC
import Derived.BigQuiet
namespace Go.Proofs.Qxb6615962aFmt
open Go.RowKit Go.Shelf
attribute [local go_sem] Oper.semAt_some
theorem below_drewN' {B : Nat} {a w : World} (h : Below B a w) (k : Nat) : Below B a (w.drewN k) := ⟨h.os, h.tape, h.output, h.size, h.block⟩
/-- byte j of run i of the packed years -/
def yb (s : ByteArray) (i j : Nat) : Int := (((s.extract (4 * i) (4 * i + 4)).data.toList.getD j 0).toNat : Int)
def yrun (s : ByteArray) (i : Nat) : Int × Int := (bits .or .i64 (yb s i 0 * 256) (yb s i 1), bits .or .i64 (yb s i 2 * 256) (yb s i 3))
theorem four (p : ByteArray) (h : p.size = 4) : ∃ a b c d : UInt8, p = ⟨#[a, b, c, d]⟩ := by
  obtain ⟨⟨l⟩⟩ := p
  have h' : l.length = 4 := h
  match l, h' with
  | [a, b, c, d], _ => exact ⟨a, b, c, d, rfl⟩
set_option maxRecDepth 100000 in
set_option maxHeartbeats 2000000 in
theorem run_any (s : ByteArray) (i : Nat) (hi : 4 * i + 4 ≤ s.size) (hs : s.size ≤ 1000000) (w : World) : Calls Tryf.prog 40 #[.agg #[.string s], .int .i64 (i : Int)] w fun e w' => e = .returned (.tuple #[.int .i64 (yrun s i).1, .int .i64 (yrun s i).2]) ∧ Below w.heap.size w w' := by
  obtain ⟨a, b, c, d, hp⟩ := four (s.extract (4 * i) (4 * i + 4)) (by rw [ByteArray.size_extract]; omega)
  have hy : yrun s i = (bits .or .i64 ((a.toNat : Int) * 256) (b.toNat : Int), bits .or .i64 ((c.toNat : Int) * 256) (d.toNat : Int)) := by simp [yrun, yb, hp]
  rw [hy]
  have HP : Hid (s.extract (4 * i) (4 * i + 4) = ⟨#[a, b, c, d]⟩) := hp
  clear hp hy
  have za := UInt8.toNat_lt a
  have zb := UInt8.toNat_lt b
  have zc := UInt8.toNat_lt c
  have zd := UInt8.toNat_lt d
  have hwa : IntKind.i64.wrap ((a.toNat : Int) * 256) = (a.toNat : Int) * 256 := by rw [IntKind.wrap_i64]; omega
  have hwc : IntKind.i64.wrap ((c.toNat : Int) * 256) = (c.toNat : Int) * 256 := by rw [IntKind.wrap_i64]; omega
  have c8 : ∀ x : UInt8, IntKind.i64.wrap (x.toNat : Int) = (x.toNat : Int) := fun x => by have := UInt8.toNat_lt x; rw [IntKind.wrap_i64]; omega
  have hw1 : IntKind.i64.wrap (4 * (i : Int)) = 4 * (i : Int) := by rw [IntKind.wrap_i64]; omega
  have hw2 : IntKind.i64.wrap (4 * (i : Int) + 4) = 4 * (i : Int) + 4 := by rw [IntKind.wrap_i64]; omega
  have b0 : (0 : Int) ≤ 4 * (i : Int) := by omega
  have b1 : 4 * (i : Int) ≤ 4 * (i : Int) + 4 := by omega
  have b2 : 4 * (i : Int) + 4 ≤ (s.size : Int) := by omega
  have t1 : (4 * (i : Int)).toNat = 4 * i := by omega
  have t2 : (4 * (i : Int) + 4).toNat = 4 * i + 4 := by omega
  go_enter Tryf.func40, Tryf.ntmps40
  go_wp2_with fail
  rw [HP.out]
  clear HP hw1 hw2 b0 b1 b2 t1 t2
  go_quiet (fail)
  go_wp2_with fail
  go_ret2
  refine ⟨?_, below_drewN' ((Below.refl _ _).alloc (Nat.le_refl _) _) _⟩
  show Ending.returned (.tuple #[.int .i64 (bits .or .i64 (wrap64 ((a.toNat : Int) * 256)) (b.toNat : Int)), .int .i64 (bits .or .i64 (wrap64 ((c.toNat : Int) * 256)) (d.toNat : Int))]) = _
  have h1 : wrap64 ((a.toNat : Int) * 256) = (a.toNat : Int) * 256 := by unfold wrap64; omega
  have h2 : wrap64 ((c.toNat : Int) * 256) = (c.toNat : Int) * 256 := by unfold wrap64; omega
  rw [h1, h2]
/-- the runs of the packed years -/
def yruns (s : ByteArray) : List (Int × Int) := (List.range (s.size / 4)).map (yrun s)
theorem or_i64 (x y : Nat) (hx : x < 65536) (hy : y < 65536) : 0 ≤ bits .or .i64 (x : Int) (y : Int) ∧ bits .or .i64 (x : Int) (y : Int) ≤ 65535 := by
  have e : bits .or .i64 (x : Int) (y : Int) = ((x ||| y : Nat) : Int) := by
    show IntKind.i64.wrap ((BitVec.ofInt 64 (x : Int) ||| BitVec.ofInt 64 (y : Int)).toNat : Int) = _
    have h1 : (BitVec.ofInt 64 (x : Int)).toNat = x := by rw [BitVec.ofInt_natCast, BitVec.toNat_ofNat]; exact Nat.mod_eq_of_lt (by omega)
    have h2 : (BitVec.ofInt 64 (y : Int)).toNat = y := by rw [BitVec.ofInt_natCast, BitVec.toNat_ofNat]; exact Nat.mod_eq_of_lt (by omega)
    have h3 : x ||| y < 2 ^ 16 := Nat.or_lt_two_pow (by omega) (by omega)
    rw [BitVec.toNat_or, h1, h2, IntKind.wrap_i64]
    omega
  have h3 : x ||| y < 2 ^ 16 := Nat.or_lt_two_pow (by omega) (by omega)
  rw [e]
  omega
theorem yrun_bounds (s : ByteArray) (i : Nat) : (0 ≤ (yrun s i).1 ∧ (yrun s i).1 ≤ 65535) ∧ 0 ≤ (yrun s i).2 ∧ (yrun s i).2 ≤ 65535 := by
  have g : ∀ a b : UInt8, 0 ≤ bits .or .i64 ((a.toNat : Int) * 256) (b.toNat : Int) ∧ bits .or .i64 ((a.toNat : Int) * 256) (b.toNat : Int) ≤ 65535 := fun a b => by
    have := UInt8.toNat_lt a
    have := UInt8.toNat_lt b
    have := or_i64 (a.toNat * 256) b.toNat (by omega) (by omega)
    simpa using this
  exact ⟨g _ _, g _ _⟩
set_option maxRecDepth 100000 in
set_option maxHeartbeats 2000000 in
theorem yruns_in (n : Nat) (hn : 2 ≤ n) (l n₀ : Nat) (s : ByteArray) (hs : s.size ≤ 1000000) (J : List (Int × Int) → World → Prop) (W : World) (hJ : AbidesFrom W.heap.size J)
    (hY : ∀ pre y W1, J pre W1 → pre ++ [y] <+: yruns s → YieldAt Fence.wide (n - 1) Tryf.prog l (encs y) W1 fun e W' => e = .returned (.bool true) ∧ J (pre ++ [y]) W' ∧ Kp n₀ W1 W')
    (h0 : J [] W) :
    CallsIn Fence.wide n Tryf.prog 26 #[.agg #[.string s], .func (.yield l) #[] #[]] W fun e W' => (∃ v, e = .returned v) ∧ J (yruns s) W' := by
  have HY : Hid (∀ pre y W1, J pre W1 → pre ++ [y] <+: yruns s → YieldAt Fence.wide (n - 1) Tryf.prog l (encs y) W1 fun e W' => e = .returned (.bool true) ∧ J (pre ++ [y]) W' ∧ Kp n₀ W1 W') := hY
  have HJA : Hid (AbidesFrom W.heap.size J) := hJ
  clear hY hJ
  refine callsIn_of_wp Tryf.func26 rfl trivial ?_ rfl
  simp only [Tryf.ntmps26, List.size_toArray, List.length_cons, List.length_nil, Nat.reduceAdd, Nat.reduceSub, Array.replicate_succ, Array.replicate_zero, List.push_toArray, List.append_toArray, List.nil_append, List.cons_append]
  gi_wp2_with fail
  have hbx : ∀ W1 : World, (∃ fr, W1.heap[W.heap.size]? = some (.cells #[.string s] 40 fr)) → W1.cell? ⟨W.heap.size, 0, none⟩ = some (.string s) := fun W1 ⟨fr, h⟩ => by simp [World.cell?, h]
  have HBX : Hid (∀ W1 : World, (∃ fr, W1.heap[W.heap.size]? = some (.cells #[.string s] 40 fr)) → W1.cell? ⟨W.heap.size, 0, none⟩ = some (.string s)) := hbx
  clear hbx
  gi_loopw [9] (fun v wr => ∃ (k : Nat), v = .int .i64 (k : Int) ∧ k ≤ s.size / 4 ∧ Hid (J ((List.range k).map (yrun s)) wr) ∧ (∃ fr, wr.heap[W.heap.size]? = some (.cells #[.string s] 40 fr)) ∧ W.heap.size + 1 ≤ wr.heap.size) (fun v _ => s.size / 4 - (intOf v).toNat)
  case atStart => exact ⟨0, rfl, Nat.zero_le _, HJA.out [] W _ none h0 (World.grownBy_alloc W _ none) (fun r e => by cases e), ⟨_, World.alloc_heap_new W _⟩, by simp⟩
  case round =>
    obtain ⟨k, rfl, hk, HJ, hfr, hsz⟩ := hrel
    by_cases hlt : k < s.size / 4
    · have hc := HBX.out wr hfr
      have hlt1 : decide ((k : Int) < (s.size : Int) / 4) = true := by simp; omega
      have hw1 : IntKind.i64.wrap ((k : Int) + 1) = (k : Int) + 1 := by rw [IntKind.wrap_i64]; omega
      have hrun := run_any s k (by omega) hs wr
      gi_wp2_with fail
      refine ⟨trivial, fun _ => by omega, ?_⟩
      refine (callsIn_wide.2 hrun).mono ?_
      rintro e w2 ⟨rfl, hb2⟩
      have HJ2 : Hid (J ((List.range k).map (yrun s)) w2) := HJA.out _ wr w2 none HJ.out ⟨hb2.os, hb2.tape, hb2.output, hb2.size, fun i hi _ => hb2.block i hi⟩ (fun r e => by cases e)
      have hfr2 : ∃ fr, w2.heap[W.heap.size]? = some (.cells #[.string s] 40 fr) := by obtain ⟨fr, h⟩ := hfr; exact ⟨fr, (hb2.block _ (by omega)).trans h⟩
      have hz2 := hb2.size
      have hpre : (List.range k).map (yrun s) ++ [yrun s k] <+: yruns s := by
        refine ⟨((List.range (s.size / 4)).drop (k + 1)).map (yrun s), ?_⟩
        unfold yruns
        rw [show [yrun s k] = [k].map (yrun s) from rfl, ← List.map_append, ← List.map_append, ← List.range_succ]
        congr 1
        have : List.range (k + 1) = (List.range (s.size / 4)).take (k + 1) := by rw [List.take_range]; congr 1; omega
        rw [this, List.take_append_drop]
      obtain ⟨fn, tmps, asg, bdy, hyl, hRR⟩ := HY.out _ _ w2 HJ2.out hpre
      dsimp only [encs] at hyl
      clear hrun hb2 hc
      gi_wp2_with fail
      refine ⟨fun _ => by omega, ?_⟩
      refine hRR.mono ?_
      rintro e W3 ⟨rfl, hJ3, hk3⟩
      have HJ3 : Hid (J ((List.range (k + 1)).map (yrun s)) W3) := by rw [List.range_succ, List.map_append]; exact hJ3
      have hfr3 : ∃ fr, W3.heap[W.heap.size]? = some (.cells #[.string s] 40 fr) := by obtain ⟨fr, h⟩ := hfr2; exact ⟨fr, hk3.2 _ _ _ h⟩
      have hz3 := hk3.1.size
      clear hJ3 hk3 hRR hyl
      gi_wp2_with fail
      go_roundw
      case rel => exact ⟨k + 1, by simp, by omega, HJ3, hfr3, by omega⟩
      case measure => simp [intOf]; omega
    · have hlt1 : decide ((k : Int) < (s.size : Int) / 4) = false := by simp; omega
      obtain rfl : k = s.size / 4 := by omega
      gi_wp2_with fail
      go_end0
      exact ⟨⟨_, rfl⟩, HJ.out⟩
theorem yruns_seq (n : Nat) (hn : 2 ≤ n) (n₀ : Nat) (s : ByteArray) (hs : s.size ≤ 1000000) (w : World) : SeqB Fence.wide n Tryf.prog 26 #[.agg #[.string s]] encs (Kp n₀) (yruns s) w :=
  fun l J W _ hJ hY h0 => yruns_in n hn l n₀ s hs J W hJ hY h0
end Go.Proofs.Qxb6615962aFmt
