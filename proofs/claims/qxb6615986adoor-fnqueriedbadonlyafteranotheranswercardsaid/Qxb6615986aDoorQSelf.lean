import Derived.Test.Qxb6615986aDoorZZFailed
set_option linter.unusedSimpArgs false
namespace Go.Proofs.Qxb6615986aDoor
open Go.RowKit Go.MuLone
attribute [-go_sem] loadVar storeVar Instr.build
attribute [-simp] Tryd.zeroValue49 Tryd.zeroValue33
attribute [local go_sem] lvs svs bds idAt_drew idAt_alloc hasId_self hasId_app idAt_setCell idAt_setCells cell_setCells frozen_setCells roomAt_drew roomAt_alloc hasRoom_cells idv_size

theorem idAt_drewN (W : World) (k b : Nat) (s : ID20) : idAt (W.drewN k) b s = idAt W b s := idAt_of fun _ _ => rfl
attribute [local go_sem] idAt_drewN

set_option maxRecDepth 8000 in
set_option maxHeartbeats 4000000 in
theorem queried_self (T BS BK : Nat) (s i : ID20) (p : Nat → Int) (la m q n : Int) (z : Addr) (sl : Value) (w : World) (ht : Tab w T BS BK s m la sl) (hq : (i.1 == s.1) = true) :
    Calls Tryd.prog 15 #[.pointer (some ⟨T, 0, none⟩), .agg (ctv i p z q), tm n] w fun e w' => e = .returned (.bool false) ∧ Below w.heap.size w w' := by
  obtain ⟨W0, hW0⟩ : ∃ W0, W0 = ((w.alloc (.cells #[.pointer (some ⟨T, 0, none⟩)] 27)).alloc (.cells (ctv i p z q) 49)).alloc (.cells #[.int .u64 (n % 1000000000), .int .i64 (n / 1000000000), .pointer none] 37) := ⟨_, rfl⟩
  have b0 : Below w.heap.size w W0 := by rw [hW0]; exact (((Below.refl _ _).alloc (Nat.le_refl _) _).alloc (by simp) _).alloc (by simp; omega) _
  have hT0 := ht.below b0 (Nat.le_refl _)
  have l1 := ld33 T s
  have l2 := ld33 (w.heap.size + 1) i
  have i1 := hT0.id
  have i2 : idAt W0 (w.heap.size + 1) i := by rw [hW0]; simp [idAt_alloc, ctv, hasId_app]
  have x0 : W0.cell? ⟨w.heap.size, 0, none⟩ = some (.pointer (some ⟨T, 0, none⟩)) := by rw [hW0]; simp [go_sem]
  have e1 := eq33 i s
  rw [hq] at e1
  have HB : Hid (Below w.heap.size w W0) := b0
  clear ht hT0 b0
  unfold tm
  go_enter_defers Tryd.func15, Tryd.ntmps15
  go_wp2_with fail
  rw [← hW0]
  clear hW0
  go_quiet (fail)
  go_wp2_with fail
  exact ⟨_, results_tmp rfl _ _ _, rfl, below_drewN HB.out _⟩
end Go.Proofs.Qxb6615986aDoor
