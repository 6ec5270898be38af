import Derived.Test.Qxb6615986aDoorEnt
set_option linter.unusedSimpArgs false
namespace Go.Proofs.Qxb6615986aDoor
open Go.RowKit Go.MuLone
attribute [-go_sem] loadVar storeVar Instr.build
attribute [-simp] Tryd.zeroValue49 Tryd.zeroValue33
attribute [local go_sem] lvs svs bds idAt_drew idAt_alloc hasId_self hasId_app idAt_setCell idAt_setCells cell_setCells frozen_setCells roomAt_drew roomAt_alloc hasRoom_cells idv_size

/-- the four cells of an address with its port -/
def apv (L : Int) (z : Addr) (q : Int) : Array Value := #[.int .u64 0, .int .u64 L, .pointer (some z), .int .u16 q]

set_option maxRecDepth 8000 in
set_option maxHeartbeats 4000000 in
theorem failed_none (T BS BK : Nat) (s : ID20) (la L q n : Int) (z : Addr) (w : World) (ht : Tab w T BS BK s 0 la (.slice none 0 0)) :
    Calls Tryd.prog 12 #[.pointer (some ⟨T, 0, none⟩), .agg (apv L z q), tm n] w fun e w' => e = .returned (.tuple #[]) ∧ Tab w' T BS BK s 0 la (.slice none 0 0) ∧ Keep [T] w w' := by
  obtain ⟨W0, hW0⟩ : ∃ W0, W0 = (w.alloc (.cells #[.int .u64 0, .int .u64 L, .pointer (some z), .int .u16 q] 47)).alloc (.cells #[.int .u64 (n % 1000000000), .int .i64 (n / 1000000000), .pointer none] 37) := ⟨_, rfl⟩
  have b0 : Below w.heap.size w W0 := by rw [hW0]; exact ((Below.refl _ _).alloc (Nat.le_refl _) _).alloc (by simp) _
  have hT0 := ht.below b0 (Nat.le_refl _)
  have hT1 := hT0.set_mu 1
  obtain ⟨W1, hW1⟩ : ∃ W1, W1 = W0.setCell ⟨T, 20, none⟩ (.int .i32 1) := ⟨_, rfl⟩
  rw [← hW1] at hT1
  have hlock := lock_free muLib ⟨T, 20, none⟩ W0 hT0.mu (hT0.fT 20)
  have hK : Keep [T] w W1 := (Keep.ofBelow b0).trans (by rw [hW1]; exact Keep.set _ _ _ (by simp))
  have t1 := hT1.bs
  have t2 := hT1.bk
  have t3 := hT1.en
  have HT1 : Hid (Tab W1 T BS BK s 1 la (.slice none 0 0)) := hT1
  have HK : Hid (Keep [T] w W1) := hK
  clear ht hT0 hT1 hK b0
  unfold apv tm
  go_enter_defers Tryd.func12, Tryd.ntmps12
  go_wp2_with fail
  rw [← hW0]
  clear hW0
  refine hlock.mono ?_
  rintro e w' ⟨rfl, hw⟩
  rw [← hW1] at hw
  subst hw
  clear hlock hW1
  go_wp2_with fail
  go_loop [7, 9, 22] (fun _ _ i => ∃ k : Nat, k ≤ 1 ∧ i = .int .i64 k) (fun _ _ i => 1 - (intOf i).toNat)
  case atStart => exact ⟨0, by omega, rfl⟩
  case round =>
    obtain ⟨k, hk, rfl⟩ := hrel
    by_cases hlt : k = 0
    · subst hlt
      go_wp2_with fail
      go_loop [9, 31] (fun _ i => i = .int .i64 0) (fun _ _ => 0)
      case atStart => rfl
      case round =>
        obtain rfl := hrel
        go_wp2_with fail
        go_round
        case rel => exact ⟨1, by omega, by rfl⟩
        case measure => simp [intOf]
    · have hk1 : k = 1 := by omega
      subst hk1
      go_wp2_with fail
      refine leaves_cons (f := 18) (args := #[.pointer (some ⟨T, 20, none⟩)]) (by simp) (by simp [go_sem]) ?_
      refine (unlock_deferred muLib ⟨T, 20, none⟩ .returning _ HT1.out.mu (HT1.out.fT 20)).mono ?_
      rintro e u' w'' ⟨rfl, rfl, rfl⟩
      exact ⟨_, results_none rfl _ _ _, rfl, HT1.out.set_mu 0, HK.out.trans (Keep.set _ _ _ (by simp))⟩

set_option maxRecDepth 8000 in
set_option maxHeartbeats 4000000 in
theorem failed_one (T BS BK ES c E : Nat) (s A : ID20) (la L q lr lq f lf n : Int) (z : Addr) (w : World) (ht : Tab w T BS BK s 0 la (.slice (some ⟨ES, 0, none⟩) 1 c)) (he : Ent w E A L z q lr lq f lf)
    (hes : w.cell? ⟨ES, 0, none⟩ = some (.pointer (some ⟨E, 0, none⟩))) (lES : ES < w.heap.size) (dET : E ≠ T) (dES : E ≠ BS) (dEK : E ≠ BK) (dTE : ES ≠ T) (hf0 : 0 ≤ f) (hf1 : f ≤ 1000000) :
    Calls Tryd.prog 12 #[.pointer (some ⟨T, 0, none⟩), .agg (apv L z q), tm n] w fun e w' => e = .returned (.tuple #[]) ∧ Tab w' T BS BK s 0 la (.slice (some ⟨ES, 0, none⟩) 1 c) ∧ Ent w' E A L z q lr lq (f + 1) n ∧ Keep [T, E] w w' := by
  obtain ⟨W0, hW0⟩ : ∃ W0, W0 = (w.alloc (.cells #[.int .u64 0, .int .u64 L, .pointer (some z), .int .u16 q] 47)).alloc (.cells #[.int .u64 (n % 1000000000), .int .i64 (n / 1000000000), .pointer none] 37) := ⟨_, rfl⟩
  have b0 : Below w.heap.size w W0 := by rw [hW0]; exact ((Below.refl _ _).alloc (Nat.le_refl _) _).alloc (by simp) _
  have hT0 := ht.below b0 (Nat.le_refl _)
  have hT1 := hT0.set_mu 1
  have hE1 := (he.below b0 (Nat.le_refl _)).set_other ⟨T, 20, none⟩ (.int .i32 1) (fun e => dET e.symm)
  have lT := ht.lT
  have hes1 : (W0.setCell ⟨T, 20, none⟩ (.int .i32 1)).cell? ⟨ES, 0, none⟩ = some (.pointer (some ⟨E, 0, none⟩)) := by
    rw [World.cell?_of_block (Below.heap_setCell _ _ _ _ dTE), b0.cell (p := ⟨ES, 0, none⟩) lES]; exact hes
  have hbx : ∀ o, (W0.setCell ⟨T, 20, none⟩ (.int .i32 1)).cell? ⟨w.heap.size, o, none⟩ = (#[.int .u64 0, .int .u64 L, .pointer (some z), .int .u16 q] : Array Value)[o]? := fun o => by
    rw [World.cell?_of_block (Below.heap_setCell _ _ _ _ (by show w.heap.size ≠ T; omega)), hW0]; simp
  have hby : ∀ o, (W0.setCell ⟨T, 20, none⟩ (.int .i32 1)).cell? ⟨w.heap.size + 1, o, none⟩ = (#[.int .u64 (n % 1000000000), .int .i64 (n / 1000000000), .pointer none] : Array Value)[o]? := fun o => by
    rw [World.cell?_of_block (Below.heap_setCell _ _ _ _ (by show w.heap.size + 1 ≠ T; omega)), hW0]; simp
  obtain ⟨W1, hW1⟩ : ∃ W1, W1 = W0.setCell ⟨T, 20, none⟩ (.int .i32 1) := ⟨_, rfl⟩
  rw [← hW1] at hT1 hE1 hes1 hbx hby
  have hlock := lock_free muLib ⟨T, 20, none⟩ W0 hT0.mu (hT0.fT 20)
  have hK : Keep [T, E] w W1 := (Keep.ofBelow b0).trans (by rw [hW1]; exact Keep.set _ _ _ (by simp))
  have t1 := hT1.bs
  have t2 := hT1.bk
  have t3 := hT1.en
  have x0 := hbx 0
  have x1 := hbx 1
  have x2 := hbx 2
  have x3 := hbx 3
  have y0 := hby 0
  have y1 := hby 1
  have y2 := hby 2
  simp at x0 x1 x2 x3 y0 y1 y2
  have e20 := hE1.c20
  have e21 := hE1.c21
  have e22 := hE1.c22
  have e23 := hE1.c23
  have e30 := hE1.c30
  have e31 := hE1.c31
  have e32 := hE1.c32
  have e33 := hE1.c33
  have ef := hE1.fz
  have q47 := eq47 L L q q z
  have lE := he.lt
  have dn1 : ¬ w.heap.size + 1 = E := by omega
  have dn2 : ¬ E = w.heap.size + 1 := by omega
  have HT1 : Hid (Tab W1 T BS BK s 1 la (.slice (some ⟨ES, 0, none⟩) 1 c)) := hT1
  have HE1 : Hid (Ent W1 E A L z q lr lq f lf) := hE1
  have HK : Hid (Keep [T, E] w W1) := hK
  have HD : Hid (E ≠ T ∧ E ≠ BS ∧ E ≠ BK) := ⟨dET, dES, dEK⟩
  clear ht he hT0 hT1 hE1 hK b0 hbx hby hes lT lES lE dTE dET dES dEK
  unfold apv tm
  go_enter_defers Tryd.func12, Tryd.ntmps12
  go_wp2_with fail
  rw [← hW0]
  clear hW0
  refine hlock.mono ?_
  rintro e w' ⟨rfl, hw⟩
  rw [← hW1] at hw
  subst hw
  clear hlock hW1
  go_wp2_with fail
  go_loopw [7, 9, 22] (fun _ _ i wr => (i = .int .i64 0 ∧ wr = w') ∨ (i = .int .i64 1 ∧ Hid (Tab wr T BS BK s 1 la (.slice (some ⟨ES, 0, none⟩) 1 c) ∧ Ent wr E A L z q lr lq (f + 1) n ∧ Keep [T, E] w wr))) (fun _ _ i _ => 1 - (intOf i).toNat)
  case atStart => exact .inl ⟨rfl, rfl⟩
  case round =>
    rcases hrel with ⟨rfl, rfl⟩ | ⟨rfl, H2⟩
    · go_wp2_with fail
      go_loopw [9, 31] (fun _ i wi => (i = .int .i64 0 ∧ wi = wr) ∨ (i = .int .i64 1 ∧ Hid (Tab wi T BS BK s 1 la (.slice (some ⟨ES, 0, none⟩) 1 c) ∧ Ent wi E A L z q lr lq (f + 1) n ∧ Keep [T, E] w wi))) (fun _ i _ => 1 - (intOf i).toNat)
      case atStart => exact .inl ⟨rfl, rfl⟩
      case round =>
        rcases hrel with ⟨rfl, rfl⟩ | ⟨rfl, H2⟩
        · go_wp2_with fail
          go_quiet (fail)
          go_wp2_with fail
          go_roundw
          case rel =>
            refine .inr ⟨by rfl, ?_⟩
            have hbD : Below wr.heap.size wr (wr.drewN nq) := below_drewN (Below.refl _ _) _
            have hTD := HT1.out.below hbD (Nat.le_refl _)
            have hED := HE1.out.below hbD (Nat.le_refl _)
            have d := HD.out
            refine ⟨?_, hED.set_fail (f + 1) n, ?_⟩
            · exact (((hTD.set_other _ _ d.1 d.2.1 d.2.2).set_other _ _ d.1 d.2.1 d.2.2).set_other _ _ d.1 d.2.1 d.2.2).set_other _ _ d.1 d.2.1 d.2.2
            · exact ((((HK.out.trans (Keep.ofBelow hbD)).trans (Keep.set _ _ _ (by simp))).trans (Keep.set _ _ _ (by simp))).trans (Keep.set _ _ _ (by simp))).trans (Keep.set _ _ _ (by simp))
          case measure => simp [intOf]
        · go_wp2_with fail
          go_roundw
          case rel => exact .inr ⟨by rfl, H2⟩
          case measure => simp [intOf]
    · clear t1 t2 t3 hes1 x0 x1 x2 x3 y0 y1 y2 e20 e21 e22 e23 e30 e31 e32 e33 ef
      go_wp2_with fail
      refine leaves_cons (f := 18) (args := #[.pointer (some ⟨T, 20, none⟩)]) (by simp) (by simp [go_sem]) ?_
      refine (unlock_deferred muLib ⟨T, 20, none⟩ .returning _ H2.out.1.mu (H2.out.1.fT 20)).mono ?_
      rintro e u' w'' ⟨rfl, rfl, rfl⟩
      exact ⟨_, results_none rfl _ _ _, rfl, H2.out.1.set_mu 0, H2.out.2.1.set_other _ _ (fun e => HD.out.1 e.symm), H2.out.2.2.trans (Keep.set _ _ _ (by simp))⟩
end Go.Proofs.Qxb6615986aDoor
