import Derived.Test.Qxb6615986aDoorZeros
import Derived.Deep.RegionHeld3
set_option linter.unusedSimpArgs false
namespace Go.Proofs.Qxb6615986aDoor
open Go.RowKit
attribute [-go_sem] loadVar storeVar Instr.build
attribute [-simp] Tryd.zeroValue49 Tryd.zeroValue33
attribute [local go_sem] lvs svs bds idAt_drew idAt_alloc hasId_self hasId_app idAt_setCell idAt_setCells cell_setCells frozen_setCells roomAt_drew roomAt_alloc hasRoom_cells idv_size

theorem below_step {B : Nat} {W0 W W' : World} (h : Below B W0 W) (hB : B ≤ W0.heap.size) (hb : Below W.heap.size W W') : Below B W0 W' := h.trans (hb.mono (Nat.le_trans hB h.size))

set_option maxRecDepth 8000 in
set_option maxHeartbeats 4000000 in
theorem bucketFor_any (T BS BK : Nat) (s i : ID20) (m la : Int) (sl : Value) (w : World) (h : Tab w T BS BK s m la sl) :
    Calls Tryd.prog 22 #[.pointer (some ⟨T, 0, none⟩), .agg (idv i)] w fun e w' => e = .returned (.pointer (some ⟨BK, 0, none⟩)) ∧ Below w.heap.size w w' := by
  obtain ⟨W0, hW0⟩ : ∃ W0, W0 = w.alloc (.cells (idv i) 33) := ⟨_, rfl⟩
  have hz : w.heap.size + 1 = W0.heap.size := by rw [hW0]; simp
  have b0 : Below w.heap.size w W0 := by rw [hW0]; exact (Below.refl _ _).alloc (Nat.le_refl _) _
  have c1 : ∀ W, Below (w.heap.size + 1) W0 W → W.cell? ⟨T, 22, none⟩ = some (.slice (some ⟨BS, 0, none⟩) 1 1) := fun W hb => by
    rw [hb.cell (p := ⟨T, 22, none⟩) (by have := h.lT; show T < _; omega), b0.cell (p := ⟨T, 22, none⟩) h.lT]; exact h.bs
  have c2 : ∀ W, Below (w.heap.size + 1) W0 W → W.cell? ⟨BS, 0, none⟩ = some (.pointer (some ⟨BK, 0, none⟩)) := fun W hb => by
    rw [hb.cell (p := ⟨BS, 0, none⟩) (by have := h.lS; show BS < _; omega), b0.cell (p := ⟨BS, 0, none⟩) h.lS]; exact h.bk
  have hS0 : Below (w.heap.size + 1) W0 W0 := Below.refl _ _
  have hS1 : Below (w.heap.size + 1) W0 W0.drew := (Below.refl _ _).drew
  have c3 : ∀ W, Below (w.heap.size + 1) W0 W → (loadVar 33 ⟨T, 0, none⟩).run Tryd.prog W = .ok (.agg (idv s)) W := fun W hb => by
    refine ld33 T s W ?_
    rw [idAt_below hb T s (by have := h.lT; omega), idAt_below b0 T s h.lT]; exact h.id
  have c4 : ∀ W, Below (w.heap.size + 1) W0 W → (loadVar 33 ⟨w.heap.size, 0, none⟩).run Tryd.prog W = .ok (.agg (idv i)) W := fun W hb => by
    refine ld33 _ i W ?_
    rw [idAt_below hb _ i (by omega), hW0, idAt_alloc, if_neg (by omega), hasId_self]; exact ⟨rfl, trivial⟩
  have hw0 : IntKind.i64.wrap 0 = 0 := by rfl
  have HZ : Hid (w.heap.size + 1 ≤ W0.heap.size) := by show w.heap.size + 1 ≤ W0.heap.size; omega
  have HB : Hid (Below w.heap.size w W0) := b0
  clear h b0 hz
  go_enter Tryd.func22, Tryd.ntmps22
  go_wp2_with fail
  rw [← hW0]
  clear hW0
  refine wp_region_held_drew (S := fun w' => Below (w.heap.size + 1) W0 w') (by kernel_rfl) hS1 (fun hHeld => ?_)
  refine wpAnyH_take (i := 0) (v := ?v0) rfl (by kernel_rfl) (by kernel_rfl) (by kernel_rfl) (fun _ _ _ h => h) (Or.inl ⟨by rfl, ?y0⟩) (by assumption) ?r0
  case y0 => intro w hSw; go_simp; try with_reducible rfl
  simp only [List.getElem_toArray, List.getElem_cons_succ, List.getElem_cons_zero, Act.put, List.setIfInBounds_toArray, List.set_cons_zero, List.set_cons_succ]
  refine wpAnyH_take (i := 1) (v := ?v1) rfl (by kernel_rfl) (by kernel_rfl) (by kernel_rfl) (fun _ _ _ h => h) (Or.inl ⟨by rfl, ?y1⟩) (by assumption) ?r1
  case y1 => intro w hSw; go_simp; try with_reducible rfl
  simp only [List.getElem_toArray, List.getElem_cons_succ, List.getElem_cons_zero, Act.put, List.setIfInBounds_toArray, List.set_cons_zero, List.set_cons_succ]
  refine wpAnyH_take (i := 2) (v := ?v2) rfl (by kernel_rfl) (by kernel_rfl) (by kernel_rfl) (fun _ _ _ h => h) (Or.inl ⟨by rfl, ?y2⟩) (by assumption) ?r2
  case y2 => intro w hSw; go_simp; try with_reducible rfl
  simp only [List.getElem_toArray, List.getElem_cons_succ, List.getElem_cons_zero, Act.put, List.setIfInBounds_toArray, List.set_cons_zero, List.set_cons_succ]
  refine wpAnyH_take (i := 3) (v := ?v3) rfl (by kernel_rfl) (by kernel_rfl) (by kernel_rfl) (fun _ _ _ h => h) (Or.inl ⟨by rfl, ?y3⟩) (by assumption) ?r3
  case y3 => intro w hSw; go_simp; try with_reducible rfl
  simp only [List.getElem_toArray, List.getElem_cons_succ, List.getElem_cons_zero, Act.put, List.setIfInBounds_toArray, List.set_cons_zero, List.set_cons_succ]
  refine wpAnyH_take (i := 4) (v := ?v4) rfl (by kernel_rfl) (by kernel_rfl) (by kernel_rfl) (fun _ _ _ h => h) (Or.inl ⟨by rfl, ?y4⟩) (by assumption) ?r4
  case y4 => intro w hSw; go_simp; try with_reducible rfl
  simp only [List.getElem_toArray, List.getElem_cons_succ, List.getElem_cons_zero, Act.put, List.setIfInBounds_toArray, List.set_cons_zero, List.set_cons_succ]
  refine wpAnyH_take (i := 5) (v := ?v5) rfl (by kernel_rfl) (by kernel_rfl) (by kernel_rfl) (fun _ _ _ h => h) (Or.inl ⟨by rfl, ?y5⟩) (by assumption) ?r5
  case y5 => intro w hSw; go_simp; try with_reducible rfl
  simp only [List.getElem_toArray, List.getElem_cons_succ, List.getElem_cons_zero, Act.put, List.setIfInBounds_toArray, List.set_cons_zero, List.set_cons_succ]
  refine wpAnyH_take (i := 6) (v := ?v6) rfl (by kernel_rfl) (by kernel_rfl) (by kernel_rfl) (fun _ _ _ h => h) (Or.inl ⟨by rfl, ?y6⟩) (by assumption) ?r6
  case y6 => intro w hSw; go_simp; try with_reducible rfl
  simp only [List.getElem_toArray, List.getElem_cons_succ, List.getElem_cons_zero, Act.put, List.setIfInBounds_toArray, List.set_cons_zero, List.set_cons_succ]
  refine wpAnyH_take (i := 7) (v := ?v7) rfl (by kernel_rfl) (by kernel_rfl) (by kernel_rfl) (fun _ _ _ h => h) (Or.inl ⟨by rfl, ?y7⟩) (by assumption) ?r7
  case y7 => intro w hSw; go_simp; try with_reducible rfl
  simp only [List.getElem_toArray, List.getElem_cons_succ, List.getElem_cons_zero, Act.put, List.setIfInBounds_toArray, List.set_cons_zero, List.set_cons_succ]
  refine wpAnyH_take (i := 8) (v := ?v8) rfl (by kernel_rfl) (by kernel_rfl) (by kernel_rfl) (fun _ _ _ h => h) (Or.inl ⟨by rfl, ?y8⟩) (by assumption) ?r8
  case y8 => intro w hSw; go_simp; try with_reducible rfl
  simp only [List.getElem_toArray, List.getElem_cons_succ, List.getElem_cons_zero, Act.put, List.setIfInBounds_toArray, List.set_cons_zero, List.set_cons_succ]
  refine wpAnyH_take (i := 11) (v := ?v11) rfl (by kernel_rfl) (by kernel_rfl) (by kernel_rfl) (fun _ _ _ h => h) (Or.inl ⟨by rfl, ?y11⟩) (by assumption) ?r11
  case y11 => intro w hSw; go_simp; try with_reducible rfl
  simp only [List.getElem_toArray, List.getElem_cons_succ, List.getElem_cons_zero, Act.put, List.setIfInBounds_toArray, List.set_cons_zero, List.set_cons_succ]
  refine wpAnyH_take (i := 12) (v := ?v12) rfl (by kernel_rfl) (by kernel_rfl) (by kernel_rfl) (fun _ _ _ h => h) (Or.inl ⟨by rfl, ?y12⟩) (by assumption) ?r12
  case y12 => intro w hSw; go_simp; try with_reducible rfl
  simp only [List.getElem_toArray, List.getElem_cons_succ, List.getElem_cons_zero, Act.put, List.setIfInBounds_toArray, List.set_cons_zero, List.set_cons_succ]
  refine wpAnyH_take (i := 13) (v := ?v13) rfl (by kernel_rfl) (by kernel_rfl) (by kernel_rfl) (fun _ _ _ h => h) (Or.inl ⟨by rfl, ?y13⟩) (by assumption) ?r13
  case y13 => intro w hSw; go_simp; try with_reducible rfl
  simp only [List.getElem_toArray, List.getElem_cons_succ, List.getElem_cons_zero, Act.put, List.setIfInBounds_toArray, List.set_cons_zero, List.set_cons_succ]
  refine wpAnyH_take (i := 14) (v := ?v14) rfl (by kernel_rfl) (by kernel_rfl) (by kernel_rfl) (fun _ _ _ h => h) (Or.inl ⟨by rfl, ?y14⟩) (by assumption) ?r14
  case y14 => intro w hSw; go_simp; try with_reducible rfl
  simp only [List.getElem_toArray, List.getElem_cons_succ, List.getElem_cons_zero, Act.put, List.setIfInBounds_toArray, List.set_cons_zero, List.set_cons_succ]
  refine wpAnyH_take (i := 15) (v := ?v15) rfl (by kernel_rfl) (by kernel_rfl) (by kernel_rfl) (fun _ _ _ h => h) (Or.inl ⟨by rfl, ?y15⟩) (by assumption) ?r15
  case y15 => intro w hSw; go_simp; try with_reducible rfl
  simp only [List.getElem_toArray, List.getElem_cons_succ, List.getElem_cons_zero, Act.put, List.setIfInBounds_toArray, List.set_cons_zero, List.set_cons_succ]
  refine wpAnyH_take (i := 16) (v := ?v16) rfl (by kernel_rfl) (by kernel_rfl) (by kernel_rfl) (fun _ _ _ h => h) (Or.inl ⟨by rfl, ?y16⟩) (by assumption) ?r16
  case y16 => intro w hSw; go_simp; try with_reducible rfl
  simp only [List.getElem_toArray, List.getElem_cons_succ, List.getElem_cons_zero, Act.put, List.setIfInBounds_toArray, List.set_cons_zero, List.set_cons_succ]
  refine wpAnyH_ready (rs := [9]) (by kernel_rfl) (by simp) ?_
  refine AllReadyH.cons rfl (fun K hK => ?_) AllReadyH.nil
  go_simp
  refine (distance_any s i _).mono ?_
  rintro e w1 ⟨d, rfl, hb⟩
  have hn := below_step hHeld HZ.out hb
  refine hK.out _ _ hn (fun _ => ?_)
  clear hK K hb hHeld hS0 hS1
  refine wpAnyH_ready (rs := [10]) (by kernel_rfl) (by simp) ?_
  refine AllReadyH.cons rfl (fun K hK => ?_) AllReadyH.nil
  go_simp
  refine (leadingZeros_any _ _).mono ?_
  rintro e w2 ⟨⟨r, rfl, hr⟩, hw2⟩
  have hn2 := below_step (W' := w2) hn HZ.out (by rw [hw2]; exact (Below.refl _ _).alloc (Nat.le_refl _) _)
  have hm1 : (if 0 < r then (0 : Int) else r) = 0 := by split <;> omega
  refine hK.out _ _ hn2 (fun _ => ?_)
  clear hK K hw2 hn
  refine wpAnyH_take (i := 17) (v := ?v17) rfl (by kernel_rfl) (by kernel_rfl) (by kernel_rfl) (fun _ _ _ h => h) (Or.inl ⟨by rfl, ?y17⟩) (by assumption) ?r17
  case y17 => intro w hSw; go_simp; try with_reducible rfl
  simp only [List.getElem_toArray, List.getElem_cons_succ, List.getElem_cons_zero, Act.put, List.setIfInBounds_toArray, List.set_cons_zero, List.set_cons_succ]
  refine wpAnyH_take (i := 18) (v := ?v18) rfl (by kernel_rfl) (by kernel_rfl) (by kernel_rfl) (fun _ _ _ h => h) (Or.inl ⟨by rfl, ?y18⟩) (by assumption) ?r18
  case y18 => intro w hSw; go_simp; try with_reducible rfl
  simp only [List.getElem_toArray, List.getElem_cons_succ, List.getElem_cons_zero, Act.put, List.setIfInBounds_toArray, List.set_cons_zero, List.set_cons_succ]
  refine wpAnyH_take (i := 19) (v := ?v19) rfl (by kernel_rfl) (by kernel_rfl) (by kernel_rfl) (fun _ _ _ h => h) (Or.inl ⟨by rfl, ?y19⟩) (by assumption) ?r19
  case y19 => intro w hSw; go_simp; try with_reducible rfl
  simp only [List.getElem_toArray, List.getElem_cons_succ, List.getElem_cons_zero, Act.put, List.setIfInBounds_toArray, List.set_cons_zero, List.set_cons_succ]
  refine wpAnyH_take (i := 20) (v := ?v20) rfl (by kernel_rfl) (by kernel_rfl) (by kernel_rfl) (fun _ _ _ h => h) (Or.inl ⟨by rfl, ?y20⟩) (by assumption) ?r20
  case y20 => intro w hSw; go_simp; try with_reducible rfl
  simp only [List.getElem_toArray, List.getElem_cons_succ, List.getElem_cons_zero, Act.put, List.setIfInBounds_toArray, List.set_cons_zero, List.set_cons_succ]
  refine wpAnyH_done (by kernel_rfl) ?_ _
  go_wp2
  go_ret
  exact ⟨rfl, HB.out.trans (hn2.mono (by omega))⟩
end Go.Proofs.Qxb6615986aDoor
