import Derived.Test.Qxb6615986aDoorFind
import Derived.Test.Qxb6615986aDoorTimeB
set_option linter.unusedSimpArgs false
namespace Go.Proofs.Qxb6615986aDoor
open Go.RowKit
attribute [-go_sem] loadVar storeVar Instr.build
attribute [-simp] Tryd.zeroValue49 Tryd.zeroValue33
attribute [local go_sem] lvs svs bds idAt_drew idAt_alloc hasId_self hasId_app idAt_setCell idAt_setCells cell_setCells frozen_setCells roomAt_drew roomAt_alloc hasRoom_cells idv_size

/-- an entry's facts: block E; its id A, its address (L, z, q), its three times, its failures -/
structure Ent (W : World) (E : Nat) (A : ID20) (L : Int) (z : Addr) (q lr lq f lf : Int) : Prop where
  id : idAt W E A
  c20 : W.cell? ⟨E, 20, none⟩ = some (.int .u64 0)
  c21 : W.cell? ⟨E, 21, none⟩ = some (.int .u64 L)
  c22 : W.cell? ⟨E, 22, none⟩ = some (.pointer (some z))
  c23 : W.cell? ⟨E, 23, none⟩ = some (.int .u16 q)
  c24 : W.cell? ⟨E, 24, none⟩ = some (.int .u64 (lr % 1000000000))
  c25 : W.cell? ⟨E, 25, none⟩ = some (.int .i64 (lr / 1000000000))
  c26 : W.cell? ⟨E, 26, none⟩ = some (.pointer none)
  c27 : W.cell? ⟨E, 27, none⟩ = some (.int .u64 (lq % 1000000000))
  c28 : W.cell? ⟨E, 28, none⟩ = some (.int .i64 (lq / 1000000000))
  c29 : W.cell? ⟨E, 29, none⟩ = some (.pointer none)
  c30 : W.cell? ⟨E, 30, none⟩ = some (.int .i64 f)
  c31 : W.cell? ⟨E, 31, none⟩ = some (.int .u64 (lf % 1000000000))
  c32 : W.cell? ⟨E, 32, none⟩ = some (.int .i64 (lf / 1000000000))
  c33 : W.cell? ⟨E, 33, none⟩ = some (.pointer none)
  c34 : ∃ x, W.cell? ⟨E, 34, none⟩ = some x
  fz : ∀ i, W.frozen? ⟨E, i, none⟩ = false
  lt : E < W.heap.size
  br : 0 ≤ lr ∧ lr ≤ 4611686018427387904
  bq : 0 ≤ lq ∧ lq ≤ 4611686018427387904

/-- what status answers -/
def StP (p : Prop) (e : Ending) : Prop := ∃ st : Int, e = .returned (.int .i64 st) ∧ (st = 2 ↔ p)

set_option maxRecDepth 8000 in
set_option maxHeartbeats 4000000 in
theorem status_any (T BS BK E : Nat) (s A : ID20) (m la L q lr lq f lf n : Int) (z : Addr) (sl : Value) (w : World) (ht : Tab w T BS BK s m la sl) (he : Ent w E A L z q lr lq f lf) (hn0 : 0 ≤ n) (hn1 : n ≤ 4611686018427387904) :
    Calls Tryd.prog 21 #[.pointer (some ⟨T, 0, none⟩), .pointer (some ⟨E, 0, none⟩), tm n] w fun e w' => StP (3 ≤ f ∧ lf < la) e ∧ Below w.heap.size w w' := by
  obtain ⟨W0, hW0⟩ : ∃ W0, W0 = w.alloc (.cells #[.int .u64 (n % 1000000000), .int .i64 (n / 1000000000), .pointer none] 37) := ⟨_, rfl⟩
  have hz : w.heap.size + 1 = W0.heap.size := by rw [hW0]; simp
  have b0 : Below w.heap.size w W0 := by rw [hW0]; exact (Below.refl _ _).alloc (Nat.le_refl _) _
  have rT23 : ∀ W, Below (w.heap.size + 1) W0 W → W.cell? ⟨T, 23, none⟩ = some (.int .u64 (la % 1000000000)) := fun W hb => by
    rw [hb.cell (p := ⟨T, 23, none⟩) (by have := ht.lT; show T < _; omega), b0.cell (p := ⟨T, 23, none⟩) ht.lT]; exact ht.a0
  have rT24 : ∀ W, Below (w.heap.size + 1) W0 W → W.cell? ⟨T, 24, none⟩ = some (.int .i64 (la / 1000000000)) := fun W hb => by
    rw [hb.cell (p := ⟨T, 24, none⟩) (by have := ht.lT; show T < _; omega), b0.cell (p := ⟨T, 24, none⟩) ht.lT]; exact ht.a1
  have rT25 : ∀ W, Below (w.heap.size + 1) W0 W → W.cell? ⟨T, 25, none⟩ = some (.pointer none) := fun W hb => by
    rw [hb.cell (p := ⟨T, 25, none⟩) (by have := ht.lT; show T < _; omega), b0.cell (p := ⟨T, 25, none⟩) ht.lT]; exact ht.a2
  have rE30 : ∀ W, Below (w.heap.size + 1) W0 W → W.cell? ⟨E, 30, none⟩ = some (.int .i64 f) := fun W hb => by
    rw [hb.cell (p := ⟨E, 30, none⟩) (by have := he.lt; show E < _; omega), b0.cell (p := ⟨E, 30, none⟩) he.lt]; exact he.c30
  have rE24 : ∀ W, Below (w.heap.size + 1) W0 W → W.cell? ⟨E, 24, none⟩ = some (.int .u64 (lr % 1000000000)) := fun W hb => by
    rw [hb.cell (p := ⟨E, 24, none⟩) (by have := he.lt; show E < _; omega), b0.cell (p := ⟨E, 24, none⟩) he.lt]; exact he.c24
  have rE25 : ∀ W, Below (w.heap.size + 1) W0 W → W.cell? ⟨E, 25, none⟩ = some (.int .i64 (lr / 1000000000)) := fun W hb => by
    rw [hb.cell (p := ⟨E, 25, none⟩) (by have := he.lt; show E < _; omega), b0.cell (p := ⟨E, 25, none⟩) he.lt]; exact he.c25
  have rE26 : ∀ W, Below (w.heap.size + 1) W0 W → W.cell? ⟨E, 26, none⟩ = some (.pointer none) := fun W hb => by
    rw [hb.cell (p := ⟨E, 26, none⟩) (by have := he.lt; show E < _; omega), b0.cell (p := ⟨E, 26, none⟩) he.lt]; exact he.c26
  have rE27 : ∀ W, Below (w.heap.size + 1) W0 W → W.cell? ⟨E, 27, none⟩ = some (.int .u64 (lq % 1000000000)) := fun W hb => by
    rw [hb.cell (p := ⟨E, 27, none⟩) (by have := he.lt; show E < _; omega), b0.cell (p := ⟨E, 27, none⟩) he.lt]; exact he.c27
  have rE28 : ∀ W, Below (w.heap.size + 1) W0 W → W.cell? ⟨E, 28, none⟩ = some (.int .i64 (lq / 1000000000)) := fun W hb => by
    rw [hb.cell (p := ⟨E, 28, none⟩) (by have := he.lt; show E < _; omega), b0.cell (p := ⟨E, 28, none⟩) he.lt]; exact he.c28
  have rE29 : ∀ W, Below (w.heap.size + 1) W0 W → W.cell? ⟨E, 29, none⟩ = some (.pointer none) := fun W hb => by
    rw [hb.cell (p := ⟨E, 29, none⟩) (by have := he.lt; show E < _; omega), b0.cell (p := ⟨E, 29, none⟩) he.lt]; exact he.c29
  have rE31 : ∀ W, Below (w.heap.size + 1) W0 W → W.cell? ⟨E, 31, none⟩ = some (.int .u64 (lf % 1000000000)) := fun W hb => by
    rw [hb.cell (p := ⟨E, 31, none⟩) (by have := he.lt; show E < _; omega), b0.cell (p := ⟨E, 31, none⟩) he.lt]; exact he.c31
  have rE32 : ∀ W, Below (w.heap.size + 1) W0 W → W.cell? ⟨E, 32, none⟩ = some (.int .i64 (lf / 1000000000)) := fun W hb => by
    rw [hb.cell (p := ⟨E, 32, none⟩) (by have := he.lt; show E < _; omega), b0.cell (p := ⟨E, 32, none⟩) he.lt]; exact he.c32
  have rE33 : ∀ W, Below (w.heap.size + 1) W0 W → W.cell? ⟨E, 33, none⟩ = some (.pointer none) := fun W hb => by
    rw [hb.cell (p := ⟨E, 33, none⟩) (by have := he.lt; show E < _; omega), b0.cell (p := ⟨E, 33, none⟩) he.lt]; exact he.c33
  have x0 : ∀ W, Below (w.heap.size + 1) W0 W → W.cell? ⟨w.heap.size, 0, none⟩ = some (.int .u64 (n % 1000000000)) := fun W hb => by
    rw [hb.cell (p := ⟨w.heap.size, 0, none⟩) (by show w.heap.size < _; omega), hW0]; simp
  have x1 : ∀ W, Below (w.heap.size + 1) W0 W → W.cell? ⟨w.heap.size, 1, none⟩ = some (.int .i64 (n / 1000000000)) := fun W hb => by
    rw [hb.cell (p := ⟨w.heap.size, 1, none⟩) (by show w.heap.size < _; omega), hW0]; simp
  have x2 : ∀ W, Below (w.heap.size + 1) W0 W → W.cell? ⟨w.heap.size, 2, none⟩ = some (.pointer none) := fun W hb => by
    rw [hb.cell (p := ⟨w.heap.size, 2, none⟩) (by show w.heap.size < _; omega), hW0]; simp
  have hS0 : Below (w.heap.size + 1) W0 W0 := Below.refl _ _
  have hS1 : Below (w.heap.size + 1) W0 W0.drew := (Below.refl _ _).drew
  have HZ : Hid (w.heap.size + 1 ≤ W0.heap.size) := by show w.heap.size + 1 ≤ W0.heap.size; omega
  have HB : Hid (Below w.heap.size w W0) := b0
  have haf := fun W => after_any la lf W
  have hs1 := fun W => sub_any n lr W hn0 hn1 he.br.1 he.br.2
  have hs2 := fun W => sub_any n lq W hn0 hn1 he.bq.1 he.bq.2
  clear hz b0 ht he
  unfold tm
  by_cases hf : 3 ≤ f
  · have hf1 : decide (3 ≤ f) = true := by simpa using hf
    clear hs1 hs2
    go_enter Tryd.func21, Tryd.ntmps21
    go_wp2_with fail
    rw [← hW0]
    clear hW0
    go_region_held3 (fun w' => Below (w.heap.size + 1) W0 w') (first | assumption | exact Below.drew (by assumption)) (first | (go_at_call 19; refine (haf _).mono ?_; rintro e w1 ⟨rfl, hb⟩; have hn := below_step (by assumption) HZ.out hb))
    go_wp2
    all_goals
      go_ret
      refine ⟨⟨_, rfl, ?_⟩, HB.out.trans (hn.mono (by omega))⟩
      omega
  · have hf1 : decide (3 ≤ f) = false := by simpa using hf
    clear haf
    have hnot : ¬ (3 ≤ f ∧ lf < la) := by omega
    go_enter Tryd.func21, Tryd.ntmps21
    go_wp2_with fail
    rw [← hW0]
    clear hW0
    go_quiet (fail)
    obtain ⟨wD, hD⟩ : ∃ W : World, W = W0.drewN nq := ⟨_, rfl⟩
    have hSD : Below (w.heap.size + 1) W0 wD := by rw [hD]; exact below_drewN (Below.refl _ _) _
    rw [← hD]
    clear hD
    go_wp2_with fail
    go_region_held3 (fun w' => Below (w.heap.size + 1) W0 w') (first | assumption | exact Below.drew (by assumption)) (first | (go_at_call 37; refine (hs1 _).mono ?_; rintro e w1 ⟨rfl, hb⟩; have hn := below_step (by assumption) HZ.out hb))
    clear hs1
    by_cases hc : n - lr < 900000000000
    · go_wp2
      go_ret
      exact ⟨⟨_, rfl, by omega⟩, HB.out.trans (hn.mono (by omega))⟩
    · go_wp2_with fail
      go_region_held3 (fun w' => Below (w.heap.size + 1) W0 w') (first | assumption | exact Below.drew (by assumption)) (first | (go_at_call 37; refine (hs2 _).mono ?_; rintro e w2 ⟨rfl, hb2⟩; have hn2 := below_step (by assumption) HZ.out hb2))
      go_wp2
      all_goals
        go_ret
        exact ⟨⟨_, rfl, by omega⟩, HB.out.trans (hn2.mono (by omega))⟩
end Go.Proofs.Qxb6615986aDoor
