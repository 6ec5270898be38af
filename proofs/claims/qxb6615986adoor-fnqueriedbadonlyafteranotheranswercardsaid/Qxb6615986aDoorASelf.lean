import Derived.Test.Qxb6615986aDoorZZQ
set_option linter.unusedSimpArgs false
namespace Go.Proofs.Qxb6615986aDoor
open Go.RowKit Go.MuLone

theorem build49_zero (W : World) : (Instr.build 49 #[]).run Tryd.prog W = .ok (.agg zc49) W := by kernel_rfl
theorem zc49_one : zc49.all (·.oneCell') = true := by
  have := idv_one ⟨List.replicate 20 0, rfl⟩
  simp only [zc49, Array.all_append, this, Bool.true_and]
  simp [Value.oneCell']
theorem roomAt_drewN (W : World) (k b n : Nat) : roomAt (W.drewN k) b n = roomAt W b n := by
  rw [eq_iff_iff]
  exact Iff.of_eq rfl

attribute [-go_sem] loadVar storeVar Instr.build
attribute [-simp] Tryd.zeroValue49 Tryd.zeroValue33
attribute [local go_sem] lvs svs bds idAt_drew idAt_drewN idAt_alloc hasId_self hasId_app idAt_setCell idAt_setCells cell_setCells frozen_setCells roomAt_drew roomAt_drewN roomAt_alloc hasRoom_cells idv_size app20 app21 app22 app23

set_option maxRecDepth 8000 in
set_option maxHeartbeats 4000000 in
theorem answered_self (T BS BK : Nat) (s i : ID20) (p : Nat → Int) (la m q n : Int) (z : Addr) (sl : Value) (w : World) (ht : Tab w T BS BK s m la sl) (hq : (i.1 == s.1) = true) :
    Calls Tryd.prog 10 #[.pointer (some ⟨T, 0, none⟩), .agg (ctv i p z q), tm n] w fun e w' => e = .returned (.tuple #[.agg zc49, .bool false]) ∧ Below w.heap.size w w' := by
  obtain ⟨W0, hW0⟩ : ∃ W0, W0 = ((w.alloc (.cells (ctv i p z q) 49)).alloc (.cells #[.int .u64 (n % 1000000000), .int .i64 (n / 1000000000), .pointer none] 37)).alloc (.cells zc49 49) := ⟨_, rfl⟩
  have b0 : Below w.heap.size w W0 := by rw [hW0]; exact (((Below.refl _ _).alloc (Nat.le_refl _) _).alloc (by simp) _).alloc (by simp; omega) _
  have hT0 := ht.below b0 (Nat.le_refl _)
  have z49 := zero49
  have s49 := zc49_size
  have l1 := ld33 T s
  have l2 := ld33 w.heap.size i
  have i1 := hT0.id
  have i2 : idAt W0 w.heap.size i := by rw [hW0, ctv]; simp [go_sem]
  have r0 : roomAt W0 (w.heap.size + 1 + 1) 24 := by rw [hW0]; simp [go_sem, s49]
  have e1 := eq33 i s
  rw [hq] at e1
  have bz := build49_zero
  have st := st49 zc49 zc49_size zc49_one (w.heap.size + 1 + 1)
  have HB : Hid (Below w.heap.size w W0) := b0
  clear ht hT0 b0
  unfold tm
  go_enter_defers Tryd.func10, Tryd.ntmps10
  go_wp2_with fail
  rw [← hW0]
  clear hW0
  go_quiet (fail)
  go_wp2_with fail
  have l49 := ld49_set zc49 zc49_size (w.heap.size + 1 + 1)
  refine ⟨.tuple #[.agg zc49, .bool false], ?_, rfl, below_setCells (below_drewN HB.out _) (by omega) _ _⟩
  simp [results, Tryd.results10, go_sem, l49, r0]
end Go.Proofs.Qxb6615986aDoor
