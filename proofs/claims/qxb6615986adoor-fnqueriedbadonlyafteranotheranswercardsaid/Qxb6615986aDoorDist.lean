import Derived.Test.Qxb6615986aDoorTab
namespace Go.Proofs.Qxb6615986aDoor
open Go.RowKit
attribute [-go_sem] loadVar storeVar Instr.build
attribute [-simp] Tryd.zeroValue49 Tryd.zeroValue33
attribute [local go_sem] lvs svs bds idAt_drew idAt_alloc hasId_self hasId_app idAt_setCell idAt_setCells cell_setCells frozen_setCells roomAt_drew roomAt_alloc hasRoom_cells idv_size

/-- the zero id -/
def zid : ID20 := ⟨List.replicate 20 0, rfl⟩
theorem zero33 (w : World) : (zeroValue 33).run Tryd.prog w = .ok (.agg (idv zid)) w := Tryd.zeroValue33 w
/-- an id with one byte turned -/
def ID20.put (d : ID20) (i : Nat) (u : UInt8) : ID20 := ⟨d.1.set i u, by rw [List.length_set]; exact d.2⟩

theorem idAt_cell {W : World} {b : Nat} {d : ID20} (h : idAt W b d) (i : Nat) (hi : i < 20) : W.cell? ⟨b, i, none⟩ = some (.int .u8 (((d.1[i]'(by rw [d.2]; exact hi)).toNat : Nat) : Int)) := by
  have := h i (Extern.Stop.cell (d.1[i]'(by rw [d.2]; exact hi))) (by simp [idv, List.getElem?_eq_getElem (show i < d.1.length by rw [d.2]; exact hi)])
  simpa [Extern.Stop.cell] using this
theorem idAt_put {W : World} {b : Nat} {d : ID20} (h : idAt W b d) (i : Nat) (hi : i < 20) (u : UInt8) : idAt (W.setCell ⟨b, i, none⟩ (.int .u8 ((u.toNat : Nat) : Int))) b (d.put i u) := by
  intro j v hv
  simp only [Nat.zero_add]
  by_cases hj : i = j
  · subst hj
    have : v = .int .u8 ((u.toNat : Nat) : Int) := by
      have hl : i < d.1.length := by rw [d.2]; exact hi
      simp [idv, ID20.put, hl, Extern.Stop.cell] at hv
      exact hv.symm
    rw [this]
    exact World.cell?_setCell_same _ _ _ (idAt_cell h i hi)
  · rw [World.cell?_setCell_other _ _ _ _ (by simp only [ne_eq, Addr.mk.injEq, not_and]; exact fun _ e => absurd e hj)]
    have := h j v (by simpa [idv, ID20.put, List.getElem?_set, hj] using hv)
    simpa using this

theorem ld33_set (d : ID20) (b : Nat) (W : World) (h : roomAt W b 20) : (loadVar 33 ⟨b, 0, none⟩).run Tryd.prog (W.setCells b 0 (idv d).toList) = .ok (.agg (idv d)) (W.setCells b 0 (idv d).toList) :=
  run_loadVar_mid _ b 0 33 (idv d).toList _ (World.rangeAt_setCells_same W b 0 _ (by rw [idv_len]; exact h)) Tryd.underlying33 rfl (info33 _ (idv_len d))
/-- the state of Distance's loop -/
structure DInv (w wr : World) (a b d : ID20) : Prop where
  bel : Below w.heap.size w wr
  ia : idAt wr w.heap.size a
  ib : idAt wr (w.heap.size + 1) b
  rm : roomAt wr (w.heap.size + 1 + 1) 20
  id : idAt wr (w.heap.size + 1 + 1 + 1) d
  fz : ∀ i, wr.frozen? ⟨w.heap.size + 1 + 1 + 1, i, none⟩ = false
theorem DInv.start (w : World) (a b : ID20) : DInv w ((((w.alloc (Obj.cells (idv a) 33)).alloc (Obj.cells (idv b) 33)).alloc (Obj.cells (idv zid) 33)).alloc (Obj.cells (idv zid) 33)) a b zid := by
  constructor
  · exact (((((Below.refl _ _).alloc (Nat.le_refl _) _).alloc (by simp) _).alloc (by simp; omega) _).alloc (by simp; omega) _)
  all_goals simp [go_sem]
theorem roomAt_setCell (W : World) (c : Addr) (u : Value) (b n : Nat) (h : c.block ≠ b) (hr : roomAt W b n) : roomAt (W.setCell c u) b n := by
  intro j hj
  have h1 : (W.setCell c u).cell? ⟨b, 0 + j, none⟩ = W.cell? ⟨b, 0 + j, none⟩ := World.cell?_of_block (Below.heap_setCell _ _ _ _ (fun e => h e.symm))
  have h2 : (W.setCell c u).frozen? ⟨b, 0 + j, none⟩ = W.frozen? ⟨b, 0 + j, none⟩ := World.frozen?_of_block (Below.heap_setCell _ _ _ _ (fun e => h e.symm))
  rw [h1, h2]
  exact hr j hj
theorem DInv.step {w wr : World} {a b d : ID20} (h : DInv w wr a b d) (i : Nat) (hi : i < 20) (u : UInt8) : DInv w (wr.setCell ⟨w.heap.size + 1 + 1 + 1, i, none⟩ (.int .u8 ((u.toNat : Nat) : Int))).drew a b (d.put i u) := by
  constructor
  · exact (h.bel.setCell (by show _ ≤ w.heap.size + 1 + 1 + 1; omega) _).drew
  · rw [idAt_drew, idAt_setCell, if_neg (by simp only; omega)]; exact h.ia
  · rw [idAt_drew, idAt_setCell, if_neg (by simp only; omega)]; exact h.ib
  · rw [roomAt_drew]; exact roomAt_setCell _ _ _ _ _ (by simp only; omega) h.rm
  · rw [idAt_drew]; exact idAt_put h.id i hi u
  · intro j; simpa using h.fz j

set_option maxRecDepth 8000 in
set_option maxHeartbeats 4000000 in
theorem distance_any (a b : ID20) (w : World) :
    Calls Tryd.prog 38 #[.agg (idv a), .agg (idv b)] w fun e w' => ∃ d : ID20, e = .returned (.agg (idv d)) ∧ Below w.heap.size w w' := by
  have z33 := zero33
  go_enter Tryd.func38, Tryd.ntmps38
  go_wp2
  go_loopw [6, 7] (fun _ i wr => ∃ (k : Nat) (d : ID20), k ≤ 20 ∧ i = .int .i64 k ∧ DInv w wr a b d) (fun _ i _ => 20 - (intOf i).toNat)
  case atStart => exact ⟨0, zid, by omega, rfl, DInv.start w a b⟩
  case round =>
    obtain ⟨k, d, hk, rfl, N⟩ := hrel
    by_cases hlt : k < 20
    · have c1 := idAt_cell N.ia k hlt
      have c2 := idAt_cell N.ib k hlt
      have c3 := idAt_cell N.id k hlt
      have c4 := N.fz k
      have NS := N.step k hlt
      obtain ⟨x, hx⟩ : ∃ x : UInt8, x = a.1[k]'(by rw [a.2]; exact hlt) := ⟨_, rfl⟩
      obtain ⟨y, hy⟩ : ∃ x : UInt8, x = b.1[k]'(by rw [b.2]; exact hlt) := ⟨_, rfl⟩
      obtain ⟨o, ho⟩ : ∃ x : UInt8, x = d.1[k]'(by rw [d.2]; exact hlt) := ⟨_, rfl⟩
      rw [← hx] at c1
      rw [← hy] at c2
      rw [← ho] at c3
      clear hx hy ho
      have hxy : bits .xor .u8 ((x.toNat : Nat) : Int) ((y.toNat : Nat) : Int) = (((x ^^^ y).toNat : Nat) : Int) := by
        rw [u8_xor_nat _ _ x.toNat_lt y.toNat_lt, UInt8.toNat_xor]
      have HN : Hid (∀ u : UInt8, DInv w (wr.setCell ⟨w.heap.size + 1 + 1 + 1, k, none⟩ (.int .u8 ((u.toNat : Nat) : Int))).drew a b (d.put k u)) := NS
      clear NS N
      go_wp2_with fail
      go_region
      go_wp2
      go_roundw
      case rel =>
        have h2 := HN.out (x ^^^ y)
        rw [UInt8.toNat_xor] at h2
        exact ⟨k + 1, _, by omega, by go_num, h2⟩
      case measure => simp [intOf]; omega
    · have hkk : k = 20 := by omega
      subst hkk
      have l33 := ld33 (w.heap.size + 1 + 1 + 1) d wr N.id
      have s33 := st33 d (w.heap.size + 1 + 1) wr N.rm
      have l49 := ld33_set d (w.heap.size + 1 + 1) wr N.rm
      have HN : Hid (DInv w wr a b d) := N
      clear N
      go_wp2
      exact bodyPost_ret (v := .agg (idv d)) (by simp [results, Tryd.results38, go_sem, l49]) rfl ⟨d, rfl, below_setCells HN.out.bel (by omega) _ _⟩
end Go.Proofs.Qxb6615986aDoor
