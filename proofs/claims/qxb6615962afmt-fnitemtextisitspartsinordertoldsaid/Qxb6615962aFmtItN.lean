import Derived.Test.Qxb6615962aFmtItL0
import Derived.OwnWalk
set_option linter.unusedSimpArgs false
namespace Go.Proofs.Qxb6615962aFmt
open Go.RowKit Go.Stop
theorem bc2 (l : List UInt8) (a b : Int) (ha : 0 ≤ a ∧ a < 256) (hb : 0 ≤ b ∧ b < 256) : Lib.byteCells l ++ [.int .u8 a, .int .u8 b] = Lib.byteCells (l ++ [u8 a, u8 b]) := by
  simp [Lib.byteCells, u8_nat a ha.1 ha.2, u8_nat b hb.1 hb.2]
set_option maxHeartbeats 2000000 in
set_option maxRecDepth 8000 in
theorem appendTwo_any (B : Nat) (v : Value) (l : List UInt8) (n : Int) (w : World) (hown : w.ownsRow B 5 1 v l.length (Lib.byteCells l)) (hl : l.length ≤ 1000000000) (hB : B ≤ w.heap.size) :
    Calls Tryf.prog 18 #[v, .int .i64 n] w fun e w' => ∃ v', e = .returned v' ∧ w'.ownsRow B 5 1 v' (l.length + 2) (Lib.byteCells (l ++ [u8 (dA n), u8 (dB n)])) ∧ Below B w w' := by
  obtain ⟨i0, hi, hz0, hz1, hz2⟩ := info_parts info5
  go_enter Tryf.func18, Tryf.ntmps18
  go_wp2_with (at_builtin; refine wpList_append_own _ rfl _ _ 36 rfl B 5 i0 (.int .u8 0) 1 1 Tryf.underlying36 hi hz0 hz1 hz2 rfl (by decide) _ _ _ rfl (hown.alloc _) ⟨w.heap.size, 0, none⟩ 2 2 [.int .u8 (dA n), .int .u8 (dB n)] rfl rfl ?c1 ?c2 ?c3 ?c4 ?c5 ?_)
  case c1 =>
    intro j u hj
    match j, hj with
    | 0, hj =>
      have : Value.int .u8 (dA n) = u := by simpa using hj
      rw [← this]
      unfold dA
      simp [Addr.add]
    | 1, hj =>
      have : Value.int .u8 (dB n) = u := by simpa using hj
      rw [← this]
      unfold dB
      simp [Addr.add]
  case c2 => intro u hu; simp at hu; rcases hu with rfl | rfl <;> rfl
  case c3 => unfold maxLen; omega
  case c4 => omega
  case c5 => simp; omega
  intro v' w2 hown' hgrow _
  go_wp2_with fail
  go_ret
  refine ⟨v', rfl, ?_, ?_⟩
  · rw [← bc2 l _ _ (dA_b n) (dB_b n)]; exact hown'
  · exact ((Below.refl B w).alloc hB _).grown hgrow (by simp; omega) (fun k hk => (hown.lt k hk).1)
set_option maxHeartbeats 2000000 in
set_option maxRecDepth 8000 in
theorem appendClock_any (B : Nat) (v : Value) (l : List UInt8) (m : Int) (w : World) (hown : w.ownsRow B 5 1 v l.length (Lib.byteCells l)) (hl : l.length ≤ 100000000) (hB : B ≤ w.heap.size) :
    Calls Tryf.prog 13 #[v, .int .i64 m] w fun e w' => ∃ v', e = .returned v' ∧ w'.ownsRow B 5 1 v' (l ++ cb m).length (Lib.byteCells (l ++ cb m)) ∧ Below B w w' := by
  have c1 := appendTwo_any B v l (wrap64 (m.tdiv 60)) w hown (by omega) hB
  go_enter Tryf.func13, Tryf.ntmps13
  go_wp2_with fail
  refine c1.mono ?_
  rintro e w1 ⟨v1, rfl, h1, hb1⟩
  have c2 := appendTwo_any B v1 (l ++ [u8 (dA (wrap64 (m.tdiv 60))), u8 (dB (wrap64 (m.tdiv 60)))]) (m.tmod 60) w1 (by simpa using h1) (by simp; omega) (Nat.le_trans hB hb1.size)
  clear c1
  go_wp2_with fail
  refine c2.mono ?_
  rintro e w2 ⟨v2, rfl, h2, hb2⟩
  go_wp2_with fail
  go_ret
  refine ⟨v2, rfl, ?_, hb1.trans hb2⟩
  have e1 : l ++ [u8 (dA (wrap64 (m.tdiv 60))), u8 (dB (wrap64 (m.tdiv 60)))] ++ [u8 (dA (m.tmod 60)), u8 (dB (m.tmod 60))] = l ++ cb m := by simp [cb]
  rw [e1] at h2
  have e2 : (l ++ [u8 (dA (wrap64 (m.tdiv 60))), u8 (dB (wrap64 (m.tdiv 60)))]).length + 2 = (l ++ cb m).length := by simp [cb]
  rw [e2] at h2
  exact h2
/-- a bool was returned -/
def SomeBool (e : Ending) : Prop := ∃ r : Bool, e = .returned (.bool r)
set_option maxHeartbeats 4000000 in
set_option maxRecDepth 8000 in
theorem clockRanges_any (tv : Value) (ts : List (Int × Int)) (hts : ts.length ≤ 1000000) (w : World) (hT : Times w tv ts) :
    Calls Tryf.prog 12 #[tv] w fun e w' => SomeBool e ∧ w' = w := by
  obtain ⟨ao, cap, rfl, hcap, hTc⟩ := hT
  have HT : Hid (∀ (j : Nat) (t : Int × Int), ts[j]? = some t → ∃ g, ao = some ⟨g, 0, none⟩ ∧ w.cell? ⟨g, j * 2, none⟩ = some (.int .i64 t.1) ∧ w.cell? ⟨g, j * 2 + 1, none⟩ = some (.int .i64 t.2)) := hTc
  clear hTc
  go_enter Tryf.func12, Tryf.ntmps12
  go_wp2_with fail
  go_loop [3] (fun i => ∃ k : Nat, i = .int .i64 (k : Int) ∧ k ≤ ts.length) (fun i => ts.length - (intOf i).toNat)
  case atStart => exact ⟨0, rfl, by omega⟩
  case round =>
    obtain ⟨k, rfl, hk⟩ := hrel
    by_cases hlt : k < ts.length
    · obtain ⟨g, rfl, hg1, hg2⟩ := HT.out k ts[k] (List.getElem?_eq_getElem hlt)
      have hki : (k : Int) < (ts.length : Int) := by omega
      have hwk : IntKind.i64.wrap ((k : Int) + 1) = (k : Int) + 1 := by rw [IntKind.wrap_i64]; omega
      generalize ts[k] = t at *
      go_wp2_with fail
      all_goals first | (go_ret; exact ⟨⟨_, rfl⟩, rfl⟩) | (refine ⟨⟨k + 1, by simp, by omega⟩, ?_⟩; simp [intOf]; omega)
    · obtain rfl : k = ts.length := by omega
      go_wp2_with fail
      go_ret
      exact ⟨⟨_, rfl⟩, rfl⟩
set_option maxHeartbeats 2000000 in
set_option maxRecDepth 8000 in
theorem zzBytes_any (mo : Nat → Nat) (s : ByteArray) (x y : Value) (ao : Option Addr) (n c : Nat) (w : World) : Calls Tryf.prog 11 #[.agg (mv mo), .string s, x, .slice ao n c, y] w fun e w' => SomeBool e ∧ Below w.heap.size w w' := by
  have hz := mv_size mo
  go_enter Tryf.func11, Tryf.ntmps11
  go_wp2
  all_goals (go_ret; exact ⟨⟨_, rfl⟩, (Below.refl _ _).alloc (Nat.le_refl _) _⟩)
end Go.Proofs.Qxb6615962aFmt
