import Derived.Test.Qxb6615962aFmtItA
import Derived.Laws.BytesString
import Derived.Lib.SlBytesRow
import Derived.Laws.MakeOwn
import Derived.OwnWalk
namespace Go.Proofs.Qxb6615962aFmt
open Go.RowKit
/-- twenty bytes at the head of block b -/
def By (w : World) (b : Nat) : Prop := (∀ j, j < 20 → ∃ u : Nat, u < 256 ∧ w.cell? ⟨b, j, none⟩ = some (.int .u8 u)) ∧ ∀ j, w.frozen? ⟨b, j, none⟩ = false
theorem By.set {w : World} {b : Nat} (h : By w b) (j u : Nat) (hu : u < 256) : By (w.setCell ⟨b, j, none⟩ (.int .u8 u)) b := by
  constructor
  · intro i hi
    obtain ⟨x, hx, hc⟩ := h.1 i hi
    by_cases e : j = i
    · subst e
      exact ⟨u, hu, World.cell?_setCell_same _ _ _ hc⟩
    · refine ⟨x, hx, ?_⟩
      rw [World.cell?_setCell_other _ _ _ _ (by simp only [ne_eq, Addr.mk.injEq, not_and]; exact fun _ e' => absurd e' e)]
      exact hc
  · intro i
    simpa using h.2 i
theorem grow_set {w a : World} {b : Nat} (h : w.grownBy a (some b)) (j : Nat) (v : Value) : w.grownBy (a.setCell ⟨b, j, none⟩ v) (some b) :=
  ⟨h.os, h.tape, h.output, by have := h.size; simpa [World.setCell] using this, fun k hk hn => by
    rw [Below.heap_setCell _ _ _ _ (fun e => hn (by rw [e]))]
    exact h.block k hk hn⟩
set_option maxRecDepth 8000 in
set_option maxHeartbeats 4000000 in
theorem fmtInt_any (b v : Nat) (hv : v < 18446744073709551616) (h0 : v ≠ 0) (w : World) (hb : By w b) : Calls Tryf.prog 49 #[.slice (some ⟨b, 0, none⟩) 20 20, .int .u64 (v : Int)] w fun e w' => ∃ m : Nat, m < 20 ∧ e = .returned (.int .i64 m) ∧ By w' b ∧ w.grownBy w' (some b) := by
  have hz : ((v : Int) == 0) = false := by simp; omega
  go_enter Tryf.func49, Tryf.ntmps49
  go_wp2_with fail
  go_loopw [1, 5] (fun x i wr => ∃ (k m : Nat), x = .int .u64 (k : Int) ∧ i = .int .i64 (m : Int) ∧ k < 10 ^ m ∧ m ≤ 20 ∧ (m = 20 → k = v) ∧ k < 18446744073709551616 ∧ Hid (By wr b ∧ w.grownBy wr (some b))) (fun _ i _ => (intOf i).toNat)
  case atStart => exact ⟨v, 20, rfl, rfl, by omega, by omega, fun _ => rfl, hv, hb, ⟨rfl, rfl, rfl, Nat.le_refl _, fun _ _ _ => rfl⟩⟩
  case round =>
    obtain ⟨k, m, rfl, rfl, hk, hm, hmv, hk64, HB⟩ := hrel
    by_cases hk0 : k = 0
    · subst hk0
      go_wp2_with fail
      go_ret
      exact ⟨m, by rcases Nat.lt_or_eq_of_le hm with h | h; omega; exact absurd (hmv h).symm h0, rfl, HB.out.1, HB.out.2⟩
    · have hk1 : decide (0 < (k : Int)) = true := by simp; omega
      have hm0 : 0 < m := by
        rcases Nat.eq_zero_or_pos m with h | h
        · subst h; simp at hk; omega
        · exact h
      obtain ⟨m', rfl⟩ : ∃ m', m = m' + 1 := ⟨m - 1, by omega⟩
      have hw1 : IntKind.i64.wrap (((m' + 1 : Nat) : Int) - 1) = (m' : Int) := by rw [IntKind.wrap_i64]; omega
      obtain ⟨u, hu, hc⟩ := HB.out.1.1 m' (by omega)
      have hf := HB.out.1.2 m'
      have hd : k / 10 < 10 ^ m' := by rw [Nat.pow_succ] at hk; omega
      have b1 : (m' : Int) < 20 := by omega
      have b0 : (0 : Int) ≤ (m' : Int) := by omega
      have hw8 : IntKind.u8.wrap ((k : Int) % 10) = (k : Int) % 10 := by simp [IntKind.wrap, IntKind.signed, IntKind.bits]; omega
      have hw9 : IntKind.u8.wrap ((k : Int) % 10 + 48) = (k : Int) % 10 + 48 := by simp [IntKind.wrap, IntKind.signed, IntKind.bits]; omega
      go_wp2_with fail
      go_roundw
      case rel =>
        have e9 : (k : Int) % 10 + 48 = ((k % 10 + 48 : Nat) : Int) := by omega
        refine ⟨k / 10, m', by simp, by simp, hd, by omega, by omega, by omega, ?_, ?_⟩
        · rw [e9]; exact HB.out.1.set m' (k % 10 + 48) (by omega)
        · exact grow_set HB.out.2 _ _
      case measure => simp [intOf]
theorem pct (t : ByteArray) : ((⟨#[37, 33, 87, 101, 101, 107, 100, 97, 121, 40]⟩ : ByteArray) ++ t ++ (⟨#[41]⟩ : ByteArray)).extract 0 3 = ⟨#[37, 33, 87]⟩ := by
  apply ByteArray.ext
  rw [ByteArray.data_extract, ByteArray.data_append, ByteArray.data_append]
  apply Array.ext'
  simp
theorem info5 : (Tryf.prog.info? 5).map (fun i => (i.zero, i.size, i.bytes)) = some (some (.int .u8 0), 1, 1) := by kernel_rfl
theorem made20 (w : World) : (Instr.makeSlice 36 (.int .i64 20) (.int .i64 20)).run Tryf.prog w = .ok (.slice (some ⟨w.heap.size, 0, none⟩) 20 20) (w.alloc (.cells (Array.replicate 20 (.int .u8 0)) 5)) := by
  obtain ⟨i0, hi, hz0, hz1, hz2⟩ := info_parts info5
  have h := run_makeSlice (P := Tryf.prog) (w := w) 36 5 i0 (.int .u8 0) Tryf.underlying36 hi hz0 .i64 .i64 20 20 (by omega) (by omega) (by rw [hz1]; decide) (by rw [hz2]; decide) (by omega)
  rw [h, hz1]
  have e : madeCells (Value.int .u8 0).cells ((20 : Int).toNat * 1) = Array.replicate 20 (.int .u8 0) := by kernel_rfl
  rw [e]
  rfl
/-- the bytes of a block, as a string -/
theorem By.str {w : World} {b : Nat} (h : By w b) : ∃ s : ByteArray, s.size = 20 ∧ Lib.Bytes w b 0 s := by
  have hc : ∀ j : Nat, ∃ u : Nat, j < 20 → u < 256 ∧ w.cell? ⟨b, j, none⟩ = some (.int .u8 u) := fun j => by
    by_cases hj : j < 20
    · obtain ⟨u, hu⟩ := h.1 j hj; exact ⟨u, fun _ => hu⟩
    · exact ⟨0, fun h => absurd h hj⟩
  obtain ⟨f, hf⟩ := Classical.axiomOfChoice hc
  obtain ⟨n, hn⟩ : ∃ n : Nat, n = 20 := ⟨_, rfl⟩
  rw [← hn] at hf ⊢
  refine ⟨⟨Array.ofFn (n := n) fun j => UInt8.ofNat (f j.val)⟩, by simp [ByteArray.size], fun i hi => ?_⟩
  have hi' : i < n := by simpa [ByteArray.size] using hi
  have hg : (⟨Array.ofFn (n := n) fun j => UInt8.ofNat (f j.val)⟩ : ByteArray)[i] = UInt8.ofNat (f i) := by
    rw [ByteArray.getElem_eq_getElem_data, Array.getElem_ofFn]
  have hlt := (hf i hi').1
  rw [hg, Nat.zero_add, (hf i hi').2, UInt8.toNat_ofNat', Nat.mod_eq_of_lt (by simpa using hlt)]
set_option maxRecDepth 8000 in
set_option maxHeartbeats 4000000 in
theorem weekday_out (d : Int) (h1 : -64 ≤ d) (h2 : d ≤ 64) (h3 : d < 0 ∨ 6 < d) (w : World) : Calls Tryf.prog 42 #[.int .i64 d] w fun e w' => (∃ s : ByteArray, s.size ≤ 100 ∧ e = .returned (.string s) ∧ s.extract 0 3 = ⟨#[37, 33, 87]⟩) ∧ Below w.heap.size w w' := by
  obtain ⟨v, hv⟩ : ∃ v : Nat, (v : Int) = d % 18446744073709551616 := ⟨(d % 18446744073709551616).toNat, by omega⟩
  have hu : IntKind.u64.wrap d = (v : Int) := by rw [IntKind.wrap_u64]; omega
  obtain ⟨W0, hW0⟩ : ∃ W0, W0 = w.alloc (.cells (Array.replicate 20 (.int .u8 0)) 5) := ⟨_, rfl⟩
  have hB0 : By W0 w.heap.size := by
    rw [hW0]
    constructor
    · intro j hj
      refine ⟨0, by omega, ?_⟩
      rw [World.cell?_alloc_new]
      simp [hj]
    · intro j; simp
  have HBW : Hid (∀ w2, W0.grownBy w2 (some w.heap.size) → Below w.heap.size w w2) := fun w2 hg => by
    have b0 : Below w.heap.size w W0 := by rw [hW0]; exact (Below.refl _ _).alloc (Nat.le_refl _) _
    have z0 : W0.heap.size = w.heap.size + 1 := by rw [hW0]; simp
    exact ⟨hg.os.trans b0.os, hg.tape.trans b0.tape, hg.output.trans b0.output, Nat.le_trans b0.size hg.size, fun k hk => (hg.block k (by omega) (by simp; omega)).trans (b0.block k hk)⟩
  have hmk := made20 w
  rw [← hW0] at hmk
  have hfm := fmtInt_any w.heap.size v (by omega) (by omega) W0 hB0
  by_cases h0 : 0 ≤ d
  · have d0 : decide ((0 : Int) ≤ d) = true := by simpa using h0
    have d6 : decide (d ≤ 6) = false := by simp; omega
    go_enter Tryf.func42, Tryf.ntmps42
    go_wp2_with fail
    rw [← hv, ← hW0]
    refine hfm.mono ?_
    rintro e w2 ⟨m, hm, rfl, hB2, hg2⟩
    obtain ⟨s, hs, hby⟩ := hB2.str
    have m1 : (m : Int) ≤ 20 := by omega
    have m0 : (0 : Int) ≤ (m : Int) := by omega
    have hb02 : Below w.heap.size w w2 := HBW.out w2 hg2
    have hcv := Lib.run_convert_window (P := Tryf.prog) w2 36 5 9 Tryf.underlying36 Tryf.underlying5 Tryf.underlying9 w.heap.size 0 s hby m (20 - m) (20 - m) (by omega)
    rw [Nat.zero_add] at hcv
    obtain ⟨t, ht⟩ : ∃ t, t = s.extract m (m + (20 - m)) := ⟨_, rfl⟩
    have htz : t.size ≤ 20 := by rw [ht, ByteArray.size_extract]; omega
    rw [← ht] at hcv
    have c1 : ((⟨#[37, 33, 87, 101, 101, 107, 100, 97, 121, 40]⟩ : ByteArray) ++ t).size ≤ 40 := by rw [ByteArray.size_append]; show 10 + _ ≤ _; omega
    have c2 : ((⟨#[37, 33, 87, 101, 101, 107, 100, 97, 121, 40]⟩ : ByteArray) ++ t ++ (⟨#[41]⟩ : ByteArray)).size ≤ 60 := by rw [ByteArray.size_append]; show _ + 1 ≤ _; omega
    clear hby hB2 hB0 hfm hmk hW0 hg2 hu hv d0 d6 ht
    go_wp2_with fail
    go_ret
    exact ⟨⟨_, by omega, rfl, pct t⟩, hb02⟩
  · have d0 : decide ((0 : Int) ≤ d) = false := by simpa using h0
    go_enter Tryf.func42, Tryf.ntmps42
    go_wp2_with fail
    rw [← hv, ← hW0]
    refine hfm.mono ?_
    rintro e w2 ⟨m, hm, rfl, hB2, hg2⟩
    obtain ⟨s, hs, hby⟩ := hB2.str
    have m1 : (m : Int) ≤ 20 := by omega
    have m0 : (0 : Int) ≤ (m : Int) := by omega
    have hb02 : Below w.heap.size w w2 := HBW.out w2 hg2
    have hcv := Lib.run_convert_window (P := Tryf.prog) w2 36 5 9 Tryf.underlying36 Tryf.underlying5 Tryf.underlying9 w.heap.size 0 s hby m (20 - m) (20 - m) (by omega)
    rw [Nat.zero_add] at hcv
    obtain ⟨t, ht⟩ : ∃ t, t = s.extract m (m + (20 - m)) := ⟨_, rfl⟩
    have htz : t.size ≤ 20 := by rw [ht, ByteArray.size_extract]; omega
    rw [← ht] at hcv
    have c1 : ((⟨#[37, 33, 87, 101, 101, 107, 100, 97, 121, 40]⟩ : ByteArray) ++ t).size ≤ 40 := by rw [ByteArray.size_append]; show 10 + _ ≤ _; omega
    have c2 : ((⟨#[37, 33, 87, 101, 101, 107, 100, 97, 121, 40]⟩ : ByteArray) ++ t ++ (⟨#[41]⟩ : ByteArray)).size ≤ 60 := by rw [ByteArray.size_append]; show _ + 1 ≤ _; omega
    clear hby hB2 hB0 hfm hmk hW0 hg2 hu hv d0 ht
    go_wp2_with fail
    go_ret
    exact ⟨⟨_, by omega, rfl, pct t⟩, hb02⟩
/-- the days' names -/
def dayNm : Nat → ByteArray
  | 0 => ⟨#[83, 117, 110, 100, 97, 121]⟩
  | 1 => ⟨#[77, 111, 110, 100, 97, 121]⟩
  | 2 => ⟨#[84, 117, 101, 115, 100, 97, 121]⟩
  | 3 => ⟨#[87, 101, 100, 110, 101, 115, 100, 97, 121]⟩
  | 4 => ⟨#[84, 104, 117, 114, 115, 100, 97, 121]⟩
  | 5 => ⟨#[70, 114, 105, 100, 97, 121]⟩
  | _ => ⟨#[83, 97, 116, 117, 114, 100, 97, 121]⟩
theorem dayNm_size : ∀ j : Nat, j < 7 → 3 ≤ (dayNm j).size ∧ (dayNm j).size ≤ 100 := by decide +kernel
/-- time.longDayNames -/
def Days (w : World) : Prop := ∃ b o c, w.cell? ⟨1, 0, none⟩ = some (.slice (some ⟨b, o, none⟩) 7 c) ∧ 7 ≤ c ∧ ∀ j, j < 7 → w.cell? ⟨b, o + j, none⟩ = some (.string (dayNm j))
set_option maxRecDepth 8000 in
set_option maxHeartbeats 4000000 in
theorem weekday_in (d : Nat) (hd : d < 7) (w : World) (hD : Days w) : Calls Tryf.prog 42 #[.int .i64 (d : Int)] w fun e w' => e = .returned (.string (dayNm d)) ∧ w' = w := by
  obtain ⟨b, o, c, h1, _, h2⟩ := hD
  have hc := h2 d hd
  have d0 : decide ((0 : Int) ≤ (d : Int)) = true := by simp
  have d6 : decide ((d : Int) ≤ 6) = true := by simp; omega
  have d7 : (d : Int) < 7 := by omega
  clear h2
  go_enter Tryf.func42, Tryf.ntmps42
  go_wp2_with fail
  go_ret
  exact ⟨rfl, rfl⟩
/-- a weekday's name -/
def wkN (d : Int) : ByteArray := if 0 ≤ d ∧ d ≤ 6 then (dayNm d.toNat).extract 0 3 else ⟨#[37, 33, 87]⟩
set_option maxRecDepth 8000 in
set_option maxHeartbeats 4000000 in
theorem weekdayName_any (d : Int) (h1 : -64 ≤ d) (h2 : d ≤ 64) (w : World) (hD : Days w) : Calls Tryf.prog 28 #[.int .i64 d] w fun e w' => e = .returned (.string (wkN d)) ∧ Below w.heap.size w w' := by
  have hc : Calls Tryf.prog 42 #[.int .i64 d] w fun e w' => (∃ s : ByteArray, 3 ≤ s.size ∧ e = .returned (.string s) ∧ s.extract 0 3 = wkN d) ∧ Below w.heap.size w w' := by
    by_cases hr : 0 ≤ d ∧ d ≤ 6
    · obtain ⟨n, rfl⟩ : ∃ n : Nat, d = n := ⟨d.toNat, by omega⟩
      refine (weekday_in n (by omega) w hD).mono ?_
      rintro e w' ⟨rfl, rfl⟩
      exact ⟨⟨_, (dayNm_size n (by omega)).1, rfl, by unfold wkN; rw [if_pos hr]; simp⟩, Below.refl _ _⟩
    · refine (weekday_out d h1 h2 (by omega) w).mono ?_
      rintro e w' ⟨⟨s, hs, rfl, hx⟩, hb⟩
      refine ⟨⟨s, ?_, rfl, by unfold wkN; rw [if_neg hr]; exact hx⟩, hb⟩
      have := congrArg ByteArray.size hx
      rw [ByteArray.size_extract] at this
      have e3 : (⟨#[37, 33, 87]⟩ : ByteArray).size = 3 := rfl
      omega
  go_enter Tryf.func28, Tryf.ntmps28
  go_wp2_with fail
  refine hc.mono ?_
  rintro e w2 ⟨⟨s, hs, rfl, hx⟩, hb⟩
  have hs3 : (3 : Int) ≤ (s.size : Int) := by omega
  go_wp2_with fail
  go_ret
  exact ⟨rfl, hb⟩
theorem wkN_size (d : Int) : (wkN d).size ≤ 100 := by
  unfold wkN
  split
  · rw [ByteArray.size_extract]; omega
  · decide
end Go.Proofs.Qxb6615962aFmt
