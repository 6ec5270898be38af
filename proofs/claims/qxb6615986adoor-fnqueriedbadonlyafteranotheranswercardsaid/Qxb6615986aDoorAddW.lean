import Derived.Test.Qxb6615986aDoorAddA
set_option linter.unusedSimpArgs false
namespace Go.Proofs.Qxb6615986aDoor
open Go.RowKit Go.MuLone
attribute [-go_sem] loadVar storeVar Instr.build
attribute [-simp] Tryd.zeroValue49 Tryd.zeroValue33
attribute [local go_sem] lvs svs bds idAt_drew idAt_drewN idAt_alloc hasId_self hasId_app idAt_setCell idAt_setCells cell_setCells frozen_setCells roomAt_drew roomAt_drewN roomAt_alloc roomAt_set hasRoom_cells idv_size app20 app21 app22 app23

set_option maxRecDepth 8000 in
set_option maxHeartbeats 16000000 in
theorem answered_add (T BS BK : Nat) (s i : ID20) (p : Nat → Int) (la q n : Int) (z : Addr) (so : Option Addr) (k c B : Nat) (xs : List Value) (L : List Nat) (w : World) (ht : Tab w T BS BK s 0 la (.slice so k c)) (hq : (i.1 == s.1) = false)
    (hk : k ≤ 1) (hown : w.ownsRow B 76 1 (.slice so k c) k xs) (hL : ∀ x, (Value.slice so k c).ownBlock = some x → x ∈ L) (hLw : ∀ x ∈ L, x ≠ T ∧ x ≠ BS ∧ x ≠ BK ∧ x < w.heap.size) (hB : B ≤ w.heap.size) (hn0 : 0 ≤ n) (hn1 : n ≤ 4611686018427387904)
    (hf : ∀ w1 la1, Keep [T] w w1 → Tab w1 T BS BK s 1 la1 (.slice so k c) → Calls Tryd.prog 20 #[.pointer (some ⟨T, 0, none⟩), .agg (idv i)] w1 fun e w' => e = .returned (.tuple #[.pointer (some ⟨BK, 0, none⟩), .int .i64 (-1)]) ∧ Below w1.heap.size w1 w') :
    Calls Tryd.prog 10 #[.pointer (some ⟨T, 0, none⟩), .agg (ctv i p z q), tm n] w fun e w' => e = .returned (.tuple #[.agg zc49, .bool false]) ∧ AddP T BS BK s i p (if la < n then n else la) q n z k B xs L w w' := by
  have HF : Hid (∀ w1 la1, Keep [T] w w1 → Tab w1 T BS BK s 1 la1 (.slice so k c) → Calls Tryd.prog 20 #[.pointer (some ⟨T, 0, none⟩), .agg (idv i)] w1 fun e w' => e = .returned (.tuple #[.pointer (some ⟨BK, 0, none⟩), .int .i64 (-1)]) ∧ Below w1.heap.size w1 w') := hf
  have HO : Hid (w.ownsRow B 76 1 (.slice so k c) k xs ∧ (∀ x, (Value.slice so k c).ownBlock = some x → x ∈ L) ∧ (∀ x ∈ L, x ≠ T ∧ x ≠ BS ∧ x ≠ BK ∧ x < w.heap.size)) := ⟨hown, hL, hLw⟩
  have hk8 : ((k : Int) == 8) = false := by simp; omega
  have hk9 : (k : Int) < 8 := by omega
  have hkBK := ht.lK
  have hBSw := ht.lS
  clear hf hown hL hLw
  obtain ⟨W0, hW0⟩ : ∃ W0, W0 = ((w.alloc (.cells (ctv i p z q) 49)).alloc (.cells #[.int .u64 (n % 1000000000), .int .i64 (n / 1000000000), .pointer none] 37)).alloc (.cells zc49 49) := ⟨_, rfl⟩
  have b0 : Below w.heap.size w W0 := by rw [hW0]; exact (((Below.refl _ _).alloc (Nat.le_refl _) _).alloc (by simp) _).alloc (by simp; omega) _
  have z0 : W0.heap.size = w.heap.size + 1 + 1 + 1 := by rw [hW0]; simp
  have hT0 := ht.below b0 (Nat.le_refl _)
  have z49 := zero49
  have s49 := zc49_size
  have hX0 : Box W0 w.heap.size (w.heap.size + 1) i (lo4 p) z q n := by
    rw [hW0, ctv]
    constructor <;> simp [go_sem]
  have r0 : roomAt W0 (w.heap.size + 1 + 1) 24 := by rw [hW0]; simp [go_sem, s49]
  have l1 := ld33 T s
  have l2 := ld33 w.heap.size i
  have i1 := hT0.id
  have i2 := hX0.id
  have e1 := eq33 i s
  rw [hq] at e1
  have lT := ht.lT
  have HT0 : Hid (Tab W0 T BS BK s 0 la (.slice so k c)) := hT0
  have HX0 : Hid (Box W0 w.heap.size (w.heap.size + 1) i (lo4 p) z q n) := hX0
  have HR0 : Hid (roomAt W0 (w.heap.size + 1 + 1) 24) := r0
  have HB : Hid (Below w.heap.size w W0) := b0
  have HZ : Hid (W0.heap.size = w.heap.size + 1 + 1 + 1 ∧ T < w.heap.size) := ⟨z0, lT⟩
  clear hT0 b0 hX0 z0 r0 lT ht
  unfold tm
  go_enter_defers Tryd.func10, Tryd.ntmps10
  go_wp2_with fail
  rw [← hW0]
  clear hW0
  go_quiet (fail)
  obtain ⟨wD, hD⟩ : ∃ W : World, W = W0.drewN nq := ⟨_, rfl⟩
  have hbD : Below W0.heap.size W0 wD := by rw [hD]; exact below_drewN (Below.refl _ _) _
  rw [← hD]
  clear hD i1 i2 e1
  have hTD := HT0.out.below hbD (Nat.le_refl _)
  have hlk := lock_free muLib ⟨T, 20, none⟩ wD hTD.mu (hTD.fT 20)
  have hT1' := hTD.set_mu 1
  have kD : Keep [T] W0 (wD.setCell ⟨T, 20, none⟩ (.int .i32 1)) := (Keep.ofBelow hbD).trans (Keep.set _ _ _ (by simp))
  obtain ⟨w1, hw1⟩ : ∃ w1, w1 = wD.setCell ⟨T, 20, none⟩ (.int .i32 1) := ⟨_, rfl⟩
  rw [← hw1] at hT1' kD
  have zz := HZ.out
  have hX1 := HX0.out.keep kD (by simp; omega) (by simp; omega)
  have HT1 : Hid (Tab w1 T BS BK s 1 la (.slice so k c)) := hT1'
  have HX1 : Hid (Box w1 w.heap.size (w.heap.size + 1) i (lo4 p) z q n) := hX1
  have HK1 : Hid (Keep [T] W0 w1) := kD
  have HW1 : Hid (w1 = wD.setCell ⟨T, 20, none⟩ (.int .i32 1)) := hw1
  have rT23 : ∀ W, Below w1.heap.size w1 W → W.cell? ⟨T, 23, none⟩ = some (.int .u64 (la % 1000000000)) := fun W hb => by rw [hb.cell (p := ⟨T, 23, none⟩) hT1'.lT]; exact hT1'.a0
  have rT24 : ∀ W, Below w1.heap.size w1 W → W.cell? ⟨T, 24, none⟩ = some (.int .i64 (la / 1000000000)) := fun W hb => by rw [hb.cell (p := ⟨T, 24, none⟩) hT1'.lT]; exact hT1'.a1
  have rT25 : ∀ W, Below w1.heap.size w1 W → W.cell? ⟨T, 25, none⟩ = some (.pointer none) := fun W hb => by rw [hb.cell (p := ⟨T, 25, none⟩) hT1'.lT]; exact hT1'.a2
  have y0 : ∀ W, Below w1.heap.size w1 W → W.cell? ⟨w.heap.size + 1, 0, none⟩ = some (.int .u64 (n % 1000000000)) := fun W hb => by rw [hb.cell (p := ⟨w.heap.size + 1, 0, none⟩) hX1.lt]; exact hX1.t0
  have y1 : ∀ W, Below w1.heap.size w1 W → W.cell? ⟨w.heap.size + 1, 1, none⟩ = some (.int .i64 (n / 1000000000)) := fun W hb => by rw [hb.cell (p := ⟨w.heap.size + 1, 1, none⟩) hX1.lt]; exact hX1.t1
  have y2 : ∀ W, Below w1.heap.size w1 W → W.cell? ⟨w.heap.size + 1, 2, none⟩ = some (.pointer none) := fun W hb => by rw [hb.cell (p := ⟨w.heap.size + 1, 2, none⟩) hX1.lt]; exact hX1.t2
  have fT : ∀ W i, Below w1.heap.size w1 W → W.frozen? ⟨T, i, none⟩ = false := fun W i hb => by rw [hb.frozen (p := ⟨T, i, none⟩) hT1'.lT]; exact hT1'.fT i
  have hS0 : Below w1.heap.size w1 w1 := Below.refl _ _
  have haf := fun W => after_any n la W
  clear hT1' hX1 kD hTD hbD hw1 zz HX0 HT0
  go_wp2_with fail
  refine hlk.mono ?_
  rintro e w' ⟨rfl, hw⟩
  rw [← HW1.out] at hw
  subst w'
  clear hlk HW1
  go_wp2_with fail
  go_region_held3 (fun w' => Below w1.heap.size w1 w') (first | assumption | exact Below.drew (by assumption)) (first | (go_at_call 19; refine (haf _).mono ?_; rintro e w2 ⟨rfl, hb⟩; have hn := below_step (by assumption) (Nat.le_refl _) hb))
  by_cases hgt : la < n
  · have hgt1 : decide (la < n) = true := by simpa using hgt
    have hT3 := (HT1.out.below hn (Nat.le_refl _)).set_la n
    have hK3 := (((HK1.out.trans (Keep.ofBelow hn)).trans (Keep.set (L := [T]) _ ⟨T, 23, none⟩ (.int .u64 (n % 1000000000)) (by simp))).trans (Keep.set _ ⟨T, 24, none⟩ (.int .i64 (n / 1000000000)) (by simp))).trans (Keep.set _ ⟨T, 25, none⟩ (.pointer none) (by simp))
    have hk12 := ((((Keep.ofBelow (L := [T]) hn)).trans (Keep.set (L := [T]) _ ⟨T, 23, none⟩ (.int .u64 (n % 1000000000)) (by simp))).trans (Keep.set _ ⟨T, 24, none⟩ (.int .i64 (n / 1000000000)) (by simp))).trans (Keep.set _ ⟨T, 25, none⟩ (.pointer none) (by simp))
    have zz := HZ.out
    have hX3 := HX1.out.keep hk12 (by simp; omega) (by simp; omega)
    have hR3 := hK3.room (w.heap.size + 1 + 1) 24 (by omega) (by simp; omega) HR0.out
    have hfind := HF.out _ n ((Keep.ofBelow HB.out).trans hK3) hT3
    have i3 := hX3.id
    have dn1 : ¬ T = w.heap.size := by omega
    have dn2 : ¬ w.heap.size = T := by omega
    go_wp2_with fail
    refine hfind.mono ?_
    rintro e w4 ⟨rfl, hb4⟩
    have hT4 := hT3.below hb4 (Nat.le_refl _)
    have hX4 := hX3.keep (l := []) (Keep.ofBelow hb4) (by simp) (by simp)
    have hK4 : Keep [T] W0 w4 := hK3.trans (Keep.ofBelow hb4)
    clear hT3 hX3 hK3 hR3 hk12 i3 hfind hb4 hn hb rT23 rT24 rT25 y0 y1 y2 fT hS0 haf HT1 HX1 HK1 HF
    have hbk := bucketFor_any T BS BK s i 1 n _ w4 hT4
    have i4 := hX4.id
    have HT4 : Hid (Tab w4 T BS BK s 1 n (.slice so k c)) := hT4
    have HX4 : Hid (Box w4 w.heap.size (w.heap.size + 1) i (lo4 p) z q n) := hX4
    have HK4 : Hid (Keep [T] W0 w4) := hK4
    clear hT4 hX4 hK4 zz
    go_wp2_with fail
    refine hbk.mono ?_
    rintro e w5 ⟨rfl, hb5⟩
    have hT5 := HT4.out.below hb5 (Nat.le_refl _)
    have hX5 := HX4.out.keep (l := []) (Keep.ofBelow hb5) (by simp) (by simp)
    have hK5 : Keep [T] W0 w5 := HK4.out.trans (Keep.ofBelow hb5)
    have en5 := hT5.en
    have HT5 : Hid (Tab w5 T BS BK s 1 n (.slice so k c)) := hT5
    have HX5 : Hid (Box w5 w.heap.size (w.heap.size + 1) i (lo4 p) z q n) := hX5
    have HK5 : Hid (Keep [T] W0 w5) := hK5
    clear hT5 hX5 hK5 HT4 HX4 HK4 hbk i4 hb5
    go_wp2_with fail
    go_loop [11] (fun v => v = .pointer (some ⟨BK, 0, none⟩)) (fun _ => 0)
    case atStart => rfl
    case round =>
    obtain rfl := hrel
    go_wp2_with fail
    go_quiet (fail)
    obtain ⟨w6, h6⟩ : ∃ W : World, W = w5.drewN nq := ⟨_, rfl⟩
    have hb6 : Below w5.heap.size w5 w6 := by rw [h6]; exact below_drewN (Below.refl _ _) _
    rw [← h6]
    clear h6 en5
    have hT6 := HT5.out.below hb6 (Nat.le_refl _)
    have hX6 := HX5.out.keep (l := []) (Keep.ofBelow hb6) (by simp) (by simp)
    have hK6 : Keep [T] W0 w6 := HK5.out.trans (Keep.ofBelow hb6)
    have en6 := hT6.en
    go_wp2_with fail
    clear en6
    have hO := HO.out
    have dT : T ∉ L := fun h => (hO.2.2 T h).1 rfl
    have dK : BK ∉ L := fun h => (hO.2.2 BK h).2.2.1 rfl
    have dc : w.heap.size ∉ L := fun h => by have := (hO.2.2 _ h).2.2.2; omega
    have dt : w.heap.size + 1 ∉ L := fun h => by have := (hO.2.2 _ h).2.2.2; omega
    have rb := hT6.en
    have lK6 := hT6.lK
    have fK := hT6.fK
    have lKw : BK < w.heap.size := hkBK
    have dcc : w.heap.size ∉ BK :: L := by simp only [List.mem_cons, not_or]; exact ⟨by omega, dc⟩
    have dtt : w.heap.size + 1 ∉ BK :: L := by simp only [List.mem_cons, not_or]; exact ⟨by omega, dt⟩
    have rc : ∀ W, Keep (BK :: L) w6 W → (loadVar 49 ⟨w.heap.size, 0, none⟩).run Tryd.prog W = .ok (.agg (ctv i p z q)) W := fun W hb => (hX6.keep hb dcc dtt).ld
    have y0 : ∀ W, Keep (BK :: L) w6 W → W.cell? ⟨w.heap.size + 1, 0, none⟩ = some (.int .u64 (n % 1000000000)) := fun W hb => (hX6.keep hb dcc dtt).t0
    have y1 : ∀ W, Keep (BK :: L) w6 W → W.cell? ⟨w.heap.size + 1, 1, none⟩ = some (.int .i64 (n / 1000000000)) := fun W hb => (hX6.keep hb dcc dtt).t1
    have y2 : ∀ W, Keep (BK :: L) w6 W → W.cell? ⟨w.heap.size + 1, 2, none⟩ = some (.pointer none) := fun W hb => (hX6.keep hb dcc dtt).t2
    have be := build_env i p z q n
    have hkW : Keep [T] w w6 := (Keep.ofBelow HB.out).trans hK6
    have own6 : w6.ownsRow B 76 1 (.slice so k c) k xs := own_keep hO.1 hkW (fun x hx => by have := (hO.2.2 x (hO.2.1 x hx)).1; simpa using this)
    have hz6 := hkW.size
    have HT6 : Hid (Tab w6 T BS BK s 1 n (.slice so k c)) := hT6
    have HX6 : Hid (Box w6 w.heap.size (w.heap.size + 1) i (lo4 p) z q n) := hX6
    have HK6 : Hid (Keep [T] W0 w6) := hK6
    have HO6 : Hid (w6.ownsRow B 76 1 (.slice so k c) k xs ∧ w.heap.size ≤ w6.heap.size) := ⟨own6, hz6⟩
    have HDL : Hid (T ∉ L ∧ BK ∉ L ∧ w.heap.size ∉ L ∧ w.heap.size + 1 ∉ L) := ⟨dT, dK, dc, dt⟩
    clear hT6 hX6 hK6 hb6 HT5 HX5 HK5 hO hkW own6 hz6 dT dK dc dt dcc dtt
    refine wp_region_noPanic ?_
    refine wp_region_held_drew (S := fun w' => Keep (BK :: L) w6 w') (by kernel_rfl) (Keep.ofBelow (Below.refl _ _).drew) (fun hHeld => ?_)
    refine wpAnyH_take (i := 0) (v := ?v0_1) rfl (by kernel_rfl) (by kernel_rfl) (by kernel_rfl) (fun _ _ _ h => h) (Or.inl ⟨by rfl, ?y0_1⟩) (by assumption) ?r0_1
    case y0_1 => intro w hSw; go_simp; try with_reducible rfl
    simp only [List.getElem_toArray, List.getElem_cons_succ, List.getElem_cons_zero, Act.put, List.setIfInBounds_toArray, List.set_cons_zero, List.set_cons_succ]
    refine wpAnyH_take (i := 1) (v := ?v1_2) rfl (by kernel_rfl) (by kernel_rfl) (by kernel_rfl) (fun _ _ _ h => h) (Or.inl ⟨by rfl, ?y1_2⟩) (by assumption) ?r1_2
    case y1_2 => intro w hSw; go_simp; try with_reducible rfl
    simp only [List.getElem_toArray, List.getElem_cons_succ, List.getElem_cons_zero, Act.put, List.setIfInBounds_toArray, List.set_cons_zero, List.set_cons_succ]
    refine wpAnyH_take (i := 2) (v := ?v2_3) rfl (by kernel_rfl) (by kernel_rfl) (by kernel_rfl) (fun _ _ _ h => h) (Or.inl ⟨by rfl, ?y2_3⟩) (by assumption) ?r2_3
    case y2_3 => intro w hSw; go_simp; try with_reducible rfl
    simp only [List.getElem_toArray, List.getElem_cons_succ, List.getElem_cons_zero, Act.put, List.setIfInBounds_toArray, List.set_cons_zero, List.set_cons_succ]
    refine wpAnyH_take (i := 3) (v := ?v3_4) rfl (by kernel_rfl) (by kernel_rfl) (by kernel_rfl) (fun _ _ _ h => h) (Or.inl ⟨by rfl, ?y3_4⟩) (by assumption) ?r3_4
    case y3_4 => intro w hSw; go_simp; try with_reducible rfl
    simp only [List.getElem_toArray, List.getElem_cons_succ, List.getElem_cons_zero, Act.put, List.setIfInBounds_toArray, List.set_cons_zero, List.set_cons_succ]
    refine wpAnyH_take (i := 5) (v := ?v5_5) rfl (by kernel_rfl) (by kernel_rfl) (by kernel_rfl) (fun _ _ _ h => h) (Or.inl ⟨by rfl, ?y5_5⟩) (by assumption) ?r5_5
    case y5_5 => intro w hSw; go_simp; try with_reducible rfl
    simp only [List.getElem_toArray, List.getElem_cons_succ, List.getElem_cons_zero, Act.put, List.setIfInBounds_toArray, List.set_cons_zero, List.set_cons_succ]
    refine wpAnyH_take (i := 6) (v := ?v6_6) rfl (by kernel_rfl) (by kernel_rfl) (by kernel_rfl) (fun _ _ _ h => h) (Or.inl ⟨by rfl, ?y6_6⟩) (by assumption) ?r6_6
    case y6_6 => intro w hSw; go_simp; try with_reducible rfl
    simp only [List.getElem_toArray, List.getElem_cons_succ, List.getElem_cons_zero, Act.put, List.setIfInBounds_toArray, List.set_cons_zero, List.set_cons_succ]
    refine wpAnyH_take (i := 7) (v := ?v7_7) rfl (by kernel_rfl) (by kernel_rfl) (by kernel_rfl) (fun _ _ _ h => h) (Or.inl ⟨by rfl, ?y7_7⟩) (by assumption) ?r7_7
    case y7_7 => intro w hSw; go_simp; try with_reducible rfl
    simp only [List.getElem_toArray, List.getElem_cons_succ, List.getElem_cons_zero, Act.put, List.setIfInBounds_toArray, List.set_cons_zero, List.set_cons_succ]
    refine wpAnyH_ready (rs := [4, 8]) (by kernel_rfl) (by simp) ?_
    refine AllReadyH.cons rfl (fun K hK => ?_) (AllReadyH.cons rfl (fun K hK => ?_) AllReadyH.nil)
    · go_simp
      refine hK.out _ _ (Keep.ofBelow (Below.refl _ _).drew) (fun hH4 => ?_)
      clear hK K
      refine wpAnyH_ready (rs := [8]) (by kernel_rfl) (by simp) ?_
      refine AllReadyH.cons rfl (fun K hK => ?_) AllReadyH.nil
      go_simp
      refine hK.out _ _ (Keep.ofBelow ((Below.refl w6.heap.size w6).alloc (Nat.le_refl _) _).drew) (fun hH8 => ?_)
      clear hK K
      refine wpAnyH_ready (rs := [9]) (by kernel_rfl) (by simp) ?_
      refine AllReadyH.cons rfl (fun K hK => ?_) AllReadyH.nil
      go_simp
      obtain ⟨w8, h8⟩ : ∃ W : World, W = ((w6.alloc (.cells (env i p z q n) 78)).alloc (.cells #[.pointer (some ⟨w6.heap.size, 0, none⟩)] 76)).drew := ⟨_, rfl⟩
      have hb8 : Below w6.heap.size w6 w8 := by rw [h8]; exact (((Below.refl w6.heap.size w6).alloc (Nat.le_refl _) _).alloc (by simp) _).drew
      have z8 : w8.heap.size = w6.heap.size + 1 + 1 := by rw [h8]; simp
      have u8 : w8.cell? ⟨w6.heap.size + 1, 0, none⟩ = some (.pointer (some ⟨w6.heap.size, 0, none⟩)) := by rw [h8]; simp
      have E8 : Hid (w8.heap[w6.heap.size]? = some (.cells (env i p z q n) 78)) := by
        show w8.heap[w6.heap.size]? = _
        rw [h8]
        show ((w6.heap.push _).push _)[w6.heap.size]? = _
        rw [Array.getElem?_push, if_neg (by simp), Array.getElem?_push, if_pos rfl]
      have own8 : w8.ownsRow B 76 1 (.slice so k c) k xs := own_keep HO6.out.1 (Keep.ofBelow (L := []) hb8) (by simp)
      rw [← h8]
      clear h8
      refine hK.out _ _ (Keep.ofBelow hb8) (fun _ => ?_)
      clear hK K
      refine wpAnyH_ready (rs := [10]) (by kernel_rfl) (by simp) ?_
      refine AllReadyH.cons rfl (fun K hK => ?_) AllReadyH.nil
      refine app58 w8 (by rfl) _ _ (by rfl) B (.slice so k c) k xs (by rfl) own8 (w6.heap.size + 1) 1 (.pointer (some ⟨w6.heap.size, 0, none⟩)) (by rfl) u8 rfl (by omega) (by have := HO6.out.2; omega) ?_
      intro g cap w9 hown9 hgrow hat hlt
      simp only [List.getElem_toArray, List.getElem_cons_succ, List.getElem_cons_zero, Act.put, List.setIfInBounds_toArray, List.set_cons_zero, List.set_cons_succ]
      have k89 : Keep L w8 w9 := ⟨hgrow.os, hgrow.tape, hgrow.output, hgrow.size, fun kk hk1 hn => hgrow.block kk hk1 (fun e => hn (HO.out.2.1 kk e.symm))⟩
      have k69 : Keep L w6 w9 := (Keep.ofBelow hb8).trans k89
      have k9 : Keep (BK :: L) w6 w9 := k69.mono (fun x hx => List.mem_cons_of_mem _ hx)
      refine hK.out _ _ k9 (fun _ => ?_)
      clear hK K
      have c9 : w9.cell? ⟨BK, 0, none⟩ = some (.slice so k c) := by rw [k69.cell BK 0 lK6 HDL.out.2.1]; exact rb
      have f9 : ∀ j, w9.frozen? ⟨BK, j, none⟩ = false := fun j => by rw [k69.frozen BK j lK6 HDL.out.2.1]; exact fK j
      obtain ⟨x1, hx1⟩ := HT6.out.k1
      obtain ⟨x2, hx2⟩ := HT6.out.k2
      obtain ⟨x3, hx3⟩ := HT6.out.k3
      have d1 : w9.cell? ⟨BK, 1, none⟩ = some x1 := by rw [k69.cell BK 1 lK6 HDL.out.2.1]; exact hx1
      have d2 : w9.cell? ⟨BK, 2, none⟩ = some x2 := by rw [k69.cell BK 2 lK6 HDL.out.2.1]; exact hx2
      have d3 : w9.cell? ⟨BK, 3, none⟩ = some x3 := by rw [k69.cell BK 3 lK6 HDL.out.2.1]; exact hx3
      clear hx1 hx2 hx3
      refine wpAnyH_take (i := 11) (v := ?v11_8) rfl (by kernel_rfl) (by kernel_rfl) (by kernel_rfl) (fun _ _ _ h => h) (Or.inl ⟨by rfl, ?y11_8⟩) (by assumption) ?r11_8
      case y11_8 => intro w hSw; go_simp; try with_reducible rfl
      simp only [List.getElem_toArray, List.getElem_cons_succ, List.getElem_cons_zero, Act.put, List.setIfInBounds_toArray, List.set_cons_zero, List.set_cons_succ]
      refine wpAnyH_take (i := 12) (v := ?v12_9) rfl (by kernel_rfl) (by kernel_rfl) (by kernel_rfl) (fun _ _ _ h => h) (Or.inl ⟨by rfl, ?y12_9⟩) (by assumption) ?r12_9
      case y12_9 => intro w hSw; go_simp; try with_reducible rfl
      simp only [List.getElem_toArray, List.getElem_cons_succ, List.getElem_cons_zero, Act.put, List.setIfInBounds_toArray, List.set_cons_zero, List.set_cons_succ]
      refine wpAnyH_ready (rs := [13]) (by kernel_rfl) (by simp) ?_
      refine AllReadyH.cons rfl (fun K hK => ?_) AllReadyH.nil
      go_simp
      refine hK.out _ _ (k9.trans (Keep.set _ _ _ (by simp))) (fun _ => ?_)
      clear hK K
      refine wpAnyH_done (by kernel_rfl) ?_ _
      refine NoPanic.normal ?_
      have zz := HZ.out
      have dl := HDL.out
      have hO := HO.out
      have dS : BS ∉ L := fun h => (hO.2.2 BS h).2.1 rfl
      have hT10 := (HT6.out.keep k69 dl.1 dS dl.2.1).set_en 0 (.slice (some ⟨g, 0, none⟩) (k + 1) cap)
      rw [if_pos rfl] at hT10
      have k910 := Keep.set (L := [BK]) w9 ⟨BK, 0, none⟩ (.slice (some ⟨g, 0, none⟩) (k + 1) cap) (by simp)
      obtain ⟨w10, h10⟩ : ∃ W : World, W = w9.setCell ⟨BK, 0, none⟩ (.slice (some ⟨g, 0, none⟩) (k + 1) cap) := ⟨_, rfl⟩
      rw [← h10] at hT10 k910
      have k10 : Keep (BK :: L) w6 w10 := k9.trans (k910.mono (by simp))
      have ge9 : w6.heap.size < w9.heap.size := by have := k89.size; omega
      have gBK : g ≠ BK := by
        rcases hat with e | e
        · exact fun e' => dl.2.1 (e' ▸ hO.2.1 _ e)
        · have := hkBK; have := HO6.out.2; omega
      have own10 : w10.ownsRow B 76 1 (.slice (some ⟨g, 0, none⟩) (k + 1) cap) (k + 1) (xs ++ [.pointer (some ⟨w6.heap.size, 0, none⟩)]) := own_keep hown9 k910 (fun x hx => by cases hx; simpa using gBK)
      have n6L : w6.heap.size ∉ L := fun h => by have := (hO.2.2 _ h).2.2.2; have := HO6.out.2; omega
      have E10 : Ent w10 w6.heap.size i (lo4 p) z q n 0 0 0 := (Ent.new (by rw [k89.block w6.heap.size (by omega) n6L]; exact E8.out) hn0 hn1).keep k910 (by simp; have := hkBK; have := HO6.out.2; omega)
      have ges : (g ∈ L ∨ w.heap.size ≤ g) ∧ g ≠ w6.heap.size := by
        rcases hat with e | e
        · have := hO.2.1 _ e
          exact ⟨.inl this, fun e' => n6L (e' ▸ this)⟩
        · have := HO6.out.2
          exact ⟨.inr (by omega), by omega⟩
      have hgz : g ≠ w.heap.size + 1 + 1 := by
        rcases hat with e | e
        · have := (hO.2.2 g (hO.2.1 _ e)).2.2.2; omega
        · have := HK6.out.size; omega
      have nz2 : w.heap.size + 1 + 1 ∉ BK :: L := by
        simp only [List.mem_cons, not_or]
        exact ⟨by have := hkBK; omega, fun h => by have := (hO.2.2 _ h).2.2.2; omega⟩
      have r10 : roomAt w10 (w.heap.size + 1 + 1) 24 := k10.room _ 24 (by have := HK6.out.size; omega) nz2 (HK6.out.room _ 24 (by omega) (by simp; omega) HR0.out)
      have yy0 := y0 w10 k10
      have yy1 := y1 w10 k10
      have yy2 := y2 w10 k10
      obtain ⟨e1, d1'⟩ := hT10.k1
      obtain ⟨e2, d2'⟩ := hT10.k2
      obtain ⟨e3, d3'⟩ := hT10.k3
      have f10 := hT10.fK
      have dn5 : ¬ BK = w.heap.size + 1 := by have := hkBK; omega
      have dn6 : ¬ w.heap.size + 1 = BK := by have := hkBK; omega
      have dn7 : ¬ BK = w.heap.size + 1 + 1 := by have := hkBK; omega
      have dn8 : ¬ w.heap.size + 1 + 1 = BK := by have := hkBK; omega
      have bz := build49_zero
      have st := st49 zc49 zc49_size zc49_one (w.heap.size + 1 + 1)
      have H10 : Hid (Tab w10 T BS BK s 1 n (.slice (some ⟨g, 0, none⟩) (k + 1) cap) ∧ w10.ownsRow B 76 1 (.slice (some ⟨g, 0, none⟩) (k + 1) cap) (k + 1) (xs ++ [.pointer (some ⟨w6.heap.size, 0, none⟩)]) ∧ Ent w10 w6.heap.size i (lo4 p) z q n 0 0 0 ∧ ((g ∈ L ∨ w.heap.size ≤ g) ∧ g ≠ w6.heap.size) ∧ Keep (BK :: L) w6 w10 ∧ w6.heap.size < w9.heap.size ∧ g ≠ BK ∧ g < w9.heap.size ∧ w9.heap.size ≤ w10.heap.size) := ⟨hT10, own10, E10, ges, k10, ge9, gBK, hlt, k910.size⟩
      rw [← h10]
      clear h10 k910 hT10 own10 E10 ges k10 ge9 gBK n6L nz2 dS hO dl zz hat hgrow hown9 k89 k69 k9 c9 f9 d1 d2 d3 y0 y1 y2 rc rb be fK u8 own8 z8 hb8 E8
      go_wp2_with fail
      have h10 := H10.out
      have hO := HO.out
      have zz := HZ.out
      have lTw := zz.2
      have hT11 := ((h10.1.set_en 1 (.int .u64 (n % 1000000000))).set_en 2 (.int .i64 (n / 1000000000))).set_en 3 (.pointer none)
      rw [if_neg (by decide), if_neg (by decide), if_neg (by decide)] at hT11
      have k11 : Keep [BK] w10 (((w10.setCell ⟨BK, 1, none⟩ (.int .u64 (n % 1000000000))).setCell ⟨BK, 2, none⟩ (.int .i64 (n / 1000000000))).setCell ⟨BK, 3, none⟩ (.pointer none)) := ((Keep.set _ _ _ (by simp)).trans (Keep.set _ _ _ (by simp))).trans (Keep.set _ _ _ (by simp))
      have r11 : roomAt (((w10.setCell ⟨BK, 1, none⟩ (.int .u64 (n % 1000000000))).setCell ⟨BK, 2, none⟩ (.int .i64 (n / 1000000000))).setCell ⟨BK, 3, none⟩ (.pointer none)) (w.heap.size + 1 + 1) 24 := by rw [roomAt_set, roomAt_set, roomAt_set]; exact r10
      obtain ⟨w11, h11⟩ : ∃ W : World, W = ((w10.setCell ⟨BK, 1, none⟩ (.int .u64 (n % 1000000000))).setCell ⟨BK, 2, none⟩ (.int .i64 (n / 1000000000))).setCell ⟨BK, 3, none⟩ (.pointer none) := ⟨_, rfl⟩
      rw [← h11] at hT11 k11 r11
      rw [← h11]
      clear h11
      have k12 := Keep.cells w11 (w.heap.size + 1 + 1) 0 zc49.toList
      have lS := h10.1.lS
      have gL : ∀ x, x < w.heap.size → x ∉ [w.heap.size + 1 + 1] := fun x hx => by simp; omega
      have hT12 := hT11.keep k12 (gL T zz.2) (gL BS hBSw) (gL BK hkBK)
      have l49 := ld49_other zc49 zc49_size (w.heap.size + 1 + 1) w11 ⟨T, 20, none⟩ (.int .i32 0) (by show T ≠ _; omega) r11
      have e6 : w.heap.size ≤ w6.heap.size := HO6.out.2
      have e7 : w.heap.size + 1 + 1 + 1 ≤ w6.heap.size := by have := HK6.out.size; omega
      have gT : g ≠ T ∧ g ≠ w.heap.size + 1 + 1 := by
        rcases h10.2.2.2.1.1 with e | e
        · have := hO.2.2 g e; exact ⟨this.1, by omega⟩
        · exact ⟨by omega, hgz⟩
      have k23 : Keep [T] (w11.setCells (w.heap.size + 1 + 1) 0 zc49.toList) ((w11.setCells (w.heap.size + 1 + 1) 0 zc49.toList).setCell ⟨T, 20, none⟩ (.int .i32 0)) := Keep.set _ _ _ (by simp)
      refine leaves_cons (f := 18) (args := #[.pointer (some ⟨T, 20, none⟩)]) (by simp) (by simp [go_sem]) ?_
      refine (unlock_deferred muLib ⟨T, 20, none⟩ .returning _ hT12.mu (hT12.fT 20)).mono ?_
      rintro e u' w'' ⟨rfl, rfl, rfl⟩
      refine ⟨.tuple #[.agg zc49, .bool false], ?_, rfl, ⟨g, cap, w6.heap.size, hT12.set_mu 0, ?_, ?_, e6, h10.2.2.2.1.1, h10.2.2.2.1.2⟩, ?_⟩
      · simp [results, Tryd.results10, go_sem, l49]
      · refine own_keep (own_keep (own_keep h10.2.1 k11 ?_) k12 ?_) k23 ?_
        · intro x hx; cases hx; simpa using h10.2.2.2.2.2.2.1
        · intro x hx; cases hx; simpa using gT.2
        · intro x hx; cases hx; simpa using gT.1
      · refine ((h10.2.2.1.keep k11 ?_).keep k12 ?_).keep k23 ?_
        · simp; omega
        · simp; omega
        · simp; omega
      · refine Keep.trans (Keep.fresh (Keep.trans (Keep.trans ((Keep.ofBelow HB.out).trans (HK6.out.mono ?_)) (h10.2.2.2.2.1.mono ?_)) (k11.mono ?_)) k12 (by omega)) (k23.mono ?_)
        · simp
        · exact fun x hx => List.mem_cons_of_mem _ hx
        · simp
        · simp
    · go_simp
      refine hK.out _ _ (Keep.ofBelow ((Below.refl w6.heap.size w6).alloc (Nat.le_refl _) _).drew) (fun hH8 => ?_)
      clear hK K
      refine wpAnyH_ready (rs := [4, 9]) (by kernel_rfl) (by simp) ?_
      refine AllReadyH.cons rfl (fun K hK => ?_) (AllReadyH.cons rfl (fun K hK => ?_) AllReadyH.nil)
      · go_simp
        refine hK.out _ _ (Keep.ofBelow ((Below.refl w6.heap.size w6).alloc (Nat.le_refl _) _).drew) (fun hH4 => ?_)
        clear hK K
        refine wpAnyH_ready (rs := [9]) (by kernel_rfl) (by simp) ?_
        refine AllReadyH.cons rfl (fun K hK => ?_) AllReadyH.nil
        go_simp
        obtain ⟨w8, h8⟩ : ∃ W : World, W = ((w6.alloc (.cells (env i p z q n) 78)).alloc (.cells #[.pointer (some ⟨w6.heap.size, 0, none⟩)] 76)).drew := ⟨_, rfl⟩
        have hb8 : Below w6.heap.size w6 w8 := by rw [h8]; exact (((Below.refl w6.heap.size w6).alloc (Nat.le_refl _) _).alloc (by simp) _).drew
        have z8 : w8.heap.size = w6.heap.size + 1 + 1 := by rw [h8]; simp
        have u8 : w8.cell? ⟨w6.heap.size + 1, 0, none⟩ = some (.pointer (some ⟨w6.heap.size, 0, none⟩)) := by rw [h8]; simp
        have E8 : Hid (w8.heap[w6.heap.size]? = some (.cells (env i p z q n) 78)) := by
          show w8.heap[w6.heap.size]? = _
          rw [h8]
          show ((w6.heap.push _).push _)[w6.heap.size]? = _
          rw [Array.getElem?_push, if_neg (by simp), Array.getElem?_push, if_pos rfl]
        have own8 : w8.ownsRow B 76 1 (.slice so k c) k xs := own_keep HO6.out.1 (Keep.ofBelow (L := []) hb8) (by simp)
        rw [← h8]
        clear h8
        refine hK.out _ _ (Keep.ofBelow hb8) (fun _ => ?_)
        clear hK K
        refine wpAnyH_ready (rs := [10]) (by kernel_rfl) (by simp) ?_
        refine AllReadyH.cons rfl (fun K hK => ?_) AllReadyH.nil
        refine app58 w8 (by rfl) _ _ (by rfl) B (.slice so k c) k xs (by rfl) own8 (w6.heap.size + 1) 1 (.pointer (some ⟨w6.heap.size, 0, none⟩)) (by rfl) u8 rfl (by omega) (by have := HO6.out.2; omega) ?_
        intro g cap w9 hown9 hgrow hat hlt
        simp only [List.getElem_toArray, List.getElem_cons_succ, List.getElem_cons_zero, Act.put, List.setIfInBounds_toArray, List.set_cons_zero, List.set_cons_succ]
        have k89 : Keep L w8 w9 := ⟨hgrow.os, hgrow.tape, hgrow.output, hgrow.size, fun kk hk1 hn => hgrow.block kk hk1 (fun e => hn (HO.out.2.1 kk e.symm))⟩
        have k69 : Keep L w6 w9 := (Keep.ofBelow hb8).trans k89
        have k9 : Keep (BK :: L) w6 w9 := k69.mono (fun x hx => List.mem_cons_of_mem _ hx)
        refine hK.out _ _ k9 (fun _ => ?_)
        clear hK K
        have c9 : w9.cell? ⟨BK, 0, none⟩ = some (.slice so k c) := by rw [k69.cell BK 0 lK6 HDL.out.2.1]; exact rb
        have f9 : ∀ j, w9.frozen? ⟨BK, j, none⟩ = false := fun j => by rw [k69.frozen BK j lK6 HDL.out.2.1]; exact fK j
        obtain ⟨x1, hx1⟩ := HT6.out.k1
        obtain ⟨x2, hx2⟩ := HT6.out.k2
        obtain ⟨x3, hx3⟩ := HT6.out.k3
        have d1 : w9.cell? ⟨BK, 1, none⟩ = some x1 := by rw [k69.cell BK 1 lK6 HDL.out.2.1]; exact hx1
        have d2 : w9.cell? ⟨BK, 2, none⟩ = some x2 := by rw [k69.cell BK 2 lK6 HDL.out.2.1]; exact hx2
        have d3 : w9.cell? ⟨BK, 3, none⟩ = some x3 := by rw [k69.cell BK 3 lK6 HDL.out.2.1]; exact hx3
        clear hx1 hx2 hx3
        refine wpAnyH_take (i := 11) (v := ?v11_10) rfl (by kernel_rfl) (by kernel_rfl) (by kernel_rfl) (fun _ _ _ h => h) (Or.inl ⟨by rfl, ?y11_10⟩) (by assumption) ?r11_10
        case y11_10 => intro w hSw; go_simp; try with_reducible rfl
        simp only [List.getElem_toArray, List.getElem_cons_succ, List.getElem_cons_zero, Act.put, List.setIfInBounds_toArray, List.set_cons_zero, List.set_cons_succ]
        refine wpAnyH_take (i := 12) (v := ?v12_11) rfl (by kernel_rfl) (by kernel_rfl) (by kernel_rfl) (fun _ _ _ h => h) (Or.inl ⟨by rfl, ?y12_11⟩) (by assumption) ?r12_11
        case y12_11 => intro w hSw; go_simp; try with_reducible rfl
        simp only [List.getElem_toArray, List.getElem_cons_succ, List.getElem_cons_zero, Act.put, List.setIfInBounds_toArray, List.set_cons_zero, List.set_cons_succ]
        refine wpAnyH_ready (rs := [13]) (by kernel_rfl) (by simp) ?_
        refine AllReadyH.cons rfl (fun K hK => ?_) AllReadyH.nil
        go_simp
        refine hK.out _ _ (k9.trans (Keep.set _ _ _ (by simp))) (fun _ => ?_)
        clear hK K
        refine wpAnyH_done (by kernel_rfl) ?_ _
        refine NoPanic.normal ?_
        have zz := HZ.out
        have dl := HDL.out
        have hO := HO.out
        have dS : BS ∉ L := fun h => (hO.2.2 BS h).2.1 rfl
        have hT10 := (HT6.out.keep k69 dl.1 dS dl.2.1).set_en 0 (.slice (some ⟨g, 0, none⟩) (k + 1) cap)
        rw [if_pos rfl] at hT10
        have k910 := Keep.set (L := [BK]) w9 ⟨BK, 0, none⟩ (.slice (some ⟨g, 0, none⟩) (k + 1) cap) (by simp)
        obtain ⟨w10, h10⟩ : ∃ W : World, W = w9.setCell ⟨BK, 0, none⟩ (.slice (some ⟨g, 0, none⟩) (k + 1) cap) := ⟨_, rfl⟩
        rw [← h10] at hT10 k910
        have k10 : Keep (BK :: L) w6 w10 := k9.trans (k910.mono (by simp))
        have ge9 : w6.heap.size < w9.heap.size := by have := k89.size; omega
        have gBK : g ≠ BK := by
          rcases hat with e | e
          · exact fun e' => dl.2.1 (e' ▸ hO.2.1 _ e)
          · have := hkBK; have := HO6.out.2; omega
        have own10 : w10.ownsRow B 76 1 (.slice (some ⟨g, 0, none⟩) (k + 1) cap) (k + 1) (xs ++ [.pointer (some ⟨w6.heap.size, 0, none⟩)]) := own_keep hown9 k910 (fun x hx => by cases hx; simpa using gBK)
        have n6L : w6.heap.size ∉ L := fun h => by have := (hO.2.2 _ h).2.2.2; have := HO6.out.2; omega
        have E10 : Ent w10 w6.heap.size i (lo4 p) z q n 0 0 0 := (Ent.new (by rw [k89.block w6.heap.size (by omega) n6L]; exact E8.out) hn0 hn1).keep k910 (by simp; have := hkBK; have := HO6.out.2; omega)
        have ges : (g ∈ L ∨ w.heap.size ≤ g) ∧ g ≠ w6.heap.size := by
          rcases hat with e | e
          · have := hO.2.1 _ e
            exact ⟨.inl this, fun e' => n6L (e' ▸ this)⟩
          · have := HO6.out.2
            exact ⟨.inr (by omega), by omega⟩
        have hgz : g ≠ w.heap.size + 1 + 1 := by
          rcases hat with e | e
          · have := (hO.2.2 g (hO.2.1 _ e)).2.2.2; omega
          · have := HK6.out.size; omega
        have nz2 : w.heap.size + 1 + 1 ∉ BK :: L := by
          simp only [List.mem_cons, not_or]
          exact ⟨by have := hkBK; omega, fun h => by have := (hO.2.2 _ h).2.2.2; omega⟩
        have r10 : roomAt w10 (w.heap.size + 1 + 1) 24 := k10.room _ 24 (by have := HK6.out.size; omega) nz2 (HK6.out.room _ 24 (by omega) (by simp; omega) HR0.out)
        have yy0 := y0 w10 k10
        have yy1 := y1 w10 k10
        have yy2 := y2 w10 k10
        obtain ⟨e1, d1'⟩ := hT10.k1
        obtain ⟨e2, d2'⟩ := hT10.k2
        obtain ⟨e3, d3'⟩ := hT10.k3
        have f10 := hT10.fK
        have dn5 : ¬ BK = w.heap.size + 1 := by have := hkBK; omega
        have dn6 : ¬ w.heap.size + 1 = BK := by have := hkBK; omega
        have dn7 : ¬ BK = w.heap.size + 1 + 1 := by have := hkBK; omega
        have dn8 : ¬ w.heap.size + 1 + 1 = BK := by have := hkBK; omega
        have bz := build49_zero
        have st := st49 zc49 zc49_size zc49_one (w.heap.size + 1 + 1)
        have H10 : Hid (Tab w10 T BS BK s 1 n (.slice (some ⟨g, 0, none⟩) (k + 1) cap) ∧ w10.ownsRow B 76 1 (.slice (some ⟨g, 0, none⟩) (k + 1) cap) (k + 1) (xs ++ [.pointer (some ⟨w6.heap.size, 0, none⟩)]) ∧ Ent w10 w6.heap.size i (lo4 p) z q n 0 0 0 ∧ ((g ∈ L ∨ w.heap.size ≤ g) ∧ g ≠ w6.heap.size) ∧ Keep (BK :: L) w6 w10 ∧ w6.heap.size < w9.heap.size ∧ g ≠ BK ∧ g < w9.heap.size ∧ w9.heap.size ≤ w10.heap.size) := ⟨hT10, own10, E10, ges, k10, ge9, gBK, hlt, k910.size⟩
        rw [← h10]
        clear h10 k910 hT10 own10 E10 ges k10 ge9 gBK n6L nz2 dS hO dl zz hat hgrow hown9 k89 k69 k9 c9 f9 d1 d2 d3 y0 y1 y2 rc rb be fK u8 own8 z8 hb8 E8
        go_wp2_with fail
        have h10 := H10.out
        have hO := HO.out
        have zz := HZ.out
        have lTw := zz.2
        have hT11 := ((h10.1.set_en 1 (.int .u64 (n % 1000000000))).set_en 2 (.int .i64 (n / 1000000000))).set_en 3 (.pointer none)
        rw [if_neg (by decide), if_neg (by decide), if_neg (by decide)] at hT11
        have k11 : Keep [BK] w10 (((w10.setCell ⟨BK, 1, none⟩ (.int .u64 (n % 1000000000))).setCell ⟨BK, 2, none⟩ (.int .i64 (n / 1000000000))).setCell ⟨BK, 3, none⟩ (.pointer none)) := ((Keep.set _ _ _ (by simp)).trans (Keep.set _ _ _ (by simp))).trans (Keep.set _ _ _ (by simp))
        have r11 : roomAt (((w10.setCell ⟨BK, 1, none⟩ (.int .u64 (n % 1000000000))).setCell ⟨BK, 2, none⟩ (.int .i64 (n / 1000000000))).setCell ⟨BK, 3, none⟩ (.pointer none)) (w.heap.size + 1 + 1) 24 := by rw [roomAt_set, roomAt_set, roomAt_set]; exact r10
        obtain ⟨w11, h11⟩ : ∃ W : World, W = ((w10.setCell ⟨BK, 1, none⟩ (.int .u64 (n % 1000000000))).setCell ⟨BK, 2, none⟩ (.int .i64 (n / 1000000000))).setCell ⟨BK, 3, none⟩ (.pointer none) := ⟨_, rfl⟩
        rw [← h11] at hT11 k11 r11
        rw [← h11]
        clear h11
        have k12 := Keep.cells w11 (w.heap.size + 1 + 1) 0 zc49.toList
        have lS := h10.1.lS
        have gL : ∀ x, x < w.heap.size → x ∉ [w.heap.size + 1 + 1] := fun x hx => by simp; omega
        have hT12 := hT11.keep k12 (gL T zz.2) (gL BS hBSw) (gL BK hkBK)
        have l49 := ld49_other zc49 zc49_size (w.heap.size + 1 + 1) w11 ⟨T, 20, none⟩ (.int .i32 0) (by show T ≠ _; omega) r11
        have e6 : w.heap.size ≤ w6.heap.size := HO6.out.2
        have e7 : w.heap.size + 1 + 1 + 1 ≤ w6.heap.size := by have := HK6.out.size; omega
        have gT : g ≠ T ∧ g ≠ w.heap.size + 1 + 1 := by
          rcases h10.2.2.2.1.1 with e | e
          · have := hO.2.2 g e; exact ⟨this.1, by omega⟩
          · exact ⟨by omega, hgz⟩
        have k23 : Keep [T] (w11.setCells (w.heap.size + 1 + 1) 0 zc49.toList) ((w11.setCells (w.heap.size + 1 + 1) 0 zc49.toList).setCell ⟨T, 20, none⟩ (.int .i32 0)) := Keep.set _ _ _ (by simp)
        refine leaves_cons (f := 18) (args := #[.pointer (some ⟨T, 20, none⟩)]) (by simp) (by simp [go_sem]) ?_
        refine (unlock_deferred muLib ⟨T, 20, none⟩ .returning _ hT12.mu (hT12.fT 20)).mono ?_
        rintro e u' w'' ⟨rfl, rfl, rfl⟩
        refine ⟨.tuple #[.agg zc49, .bool false], ?_, rfl, ⟨g, cap, w6.heap.size, hT12.set_mu 0, ?_, ?_, e6, h10.2.2.2.1.1, h10.2.2.2.1.2⟩, ?_⟩
        · simp [results, Tryd.results10, go_sem, l49]
        · refine own_keep (own_keep (own_keep h10.2.1 k11 ?_) k12 ?_) k23 ?_
          · intro x hx; cases hx; simpa using h10.2.2.2.2.2.2.1
          · intro x hx; cases hx; simpa using gT.2
          · intro x hx; cases hx; simpa using gT.1
        · refine ((h10.2.2.1.keep k11 ?_).keep k12 ?_).keep k23 ?_
          · simp; omega
          · simp; omega
          · simp; omega
        · refine Keep.trans (Keep.fresh (Keep.trans (Keep.trans ((Keep.ofBelow HB.out).trans (HK6.out.mono ?_)) (h10.2.2.2.2.1.mono ?_)) (k11.mono ?_)) k12 (by omega)) (k23.mono ?_)
          · simp
          · exact fun x hx => List.mem_cons_of_mem _ hx
          · simp
          · simp
      · go_simp
        refine hK.out _ _ (Keep.ofBelow (((Below.refl w6.heap.size w6).alloc (Nat.le_refl _) _).alloc (by simp) _).drew) (fun hH9 => ?_)
        clear hK K
        refine wpAnyH_ready (rs := [4]) (by kernel_rfl) (by simp) ?_
        refine AllReadyH.cons rfl (fun K hK => ?_) AllReadyH.nil
        go_simp
        obtain ⟨w8, h8⟩ : ∃ W : World, W = ((w6.alloc (.cells (env i p z q n) 78)).alloc (.cells #[.pointer (some ⟨w6.heap.size, 0, none⟩)] 76)).drew := ⟨_, rfl⟩
        have hb8 : Below w6.heap.size w6 w8 := by rw [h8]; exact (((Below.refl w6.heap.size w6).alloc (Nat.le_refl _) _).alloc (by simp) _).drew
        have z8 : w8.heap.size = w6.heap.size + 1 + 1 := by rw [h8]; simp
        have u8 : w8.cell? ⟨w6.heap.size + 1, 0, none⟩ = some (.pointer (some ⟨w6.heap.size, 0, none⟩)) := by rw [h8]; simp
        have E8 : Hid (w8.heap[w6.heap.size]? = some (.cells (env i p z q n) 78)) := by
          show w8.heap[w6.heap.size]? = _
          rw [h8]
          show ((w6.heap.push _).push _)[w6.heap.size]? = _
          rw [Array.getElem?_push, if_neg (by simp), Array.getElem?_push, if_pos rfl]
        have own8 : w8.ownsRow B 76 1 (.slice so k c) k xs := own_keep HO6.out.1 (Keep.ofBelow (L := []) hb8) (by simp)
        rw [← h8]
        clear h8
        refine hK.out _ _ (Keep.ofBelow hb8) (fun _ => ?_)
        clear hK K
        refine wpAnyH_ready (rs := [10]) (by kernel_rfl) (by simp) ?_
        refine AllReadyH.cons rfl (fun K hK => ?_) AllReadyH.nil
        refine app58 w8 (by rfl) _ _ (by rfl) B (.slice so k c) k xs (by rfl) own8 (w6.heap.size + 1) 1 (.pointer (some ⟨w6.heap.size, 0, none⟩)) (by rfl) u8 rfl (by omega) (by have := HO6.out.2; omega) ?_
        intro g cap w9 hown9 hgrow hat hlt
        simp only [List.getElem_toArray, List.getElem_cons_succ, List.getElem_cons_zero, Act.put, List.setIfInBounds_toArray, List.set_cons_zero, List.set_cons_succ]
        have k89 : Keep L w8 w9 := ⟨hgrow.os, hgrow.tape, hgrow.output, hgrow.size, fun kk hk1 hn => hgrow.block kk hk1 (fun e => hn (HO.out.2.1 kk e.symm))⟩
        have k69 : Keep L w6 w9 := (Keep.ofBelow hb8).trans k89
        have k9 : Keep (BK :: L) w6 w9 := k69.mono (fun x hx => List.mem_cons_of_mem _ hx)
        refine hK.out _ _ k9 (fun _ => ?_)
        clear hK K
        have c9 : w9.cell? ⟨BK, 0, none⟩ = some (.slice so k c) := by rw [k69.cell BK 0 lK6 HDL.out.2.1]; exact rb
        have f9 : ∀ j, w9.frozen? ⟨BK, j, none⟩ = false := fun j => by rw [k69.frozen BK j lK6 HDL.out.2.1]; exact fK j
        obtain ⟨x1, hx1⟩ := HT6.out.k1
        obtain ⟨x2, hx2⟩ := HT6.out.k2
        obtain ⟨x3, hx3⟩ := HT6.out.k3
        have d1 : w9.cell? ⟨BK, 1, none⟩ = some x1 := by rw [k69.cell BK 1 lK6 HDL.out.2.1]; exact hx1
        have d2 : w9.cell? ⟨BK, 2, none⟩ = some x2 := by rw [k69.cell BK 2 lK6 HDL.out.2.1]; exact hx2
        have d3 : w9.cell? ⟨BK, 3, none⟩ = some x3 := by rw [k69.cell BK 3 lK6 HDL.out.2.1]; exact hx3
        clear hx1 hx2 hx3
        refine wpAnyH_take (i := 11) (v := ?v11_12) rfl (by kernel_rfl) (by kernel_rfl) (by kernel_rfl) (fun _ _ _ h => h) (Or.inl ⟨by rfl, ?y11_12⟩) (by assumption) ?r11_12
        case y11_12 => intro w hSw; go_simp; try with_reducible rfl
        simp only [List.getElem_toArray, List.getElem_cons_succ, List.getElem_cons_zero, Act.put, List.setIfInBounds_toArray, List.set_cons_zero, List.set_cons_succ]
        refine wpAnyH_take (i := 12) (v := ?v12_13) rfl (by kernel_rfl) (by kernel_rfl) (by kernel_rfl) (fun _ _ _ h => h) (Or.inl ⟨by rfl, ?y12_13⟩) (by assumption) ?r12_13
        case y12_13 => intro w hSw; go_simp; try with_reducible rfl
        simp only [List.getElem_toArray, List.getElem_cons_succ, List.getElem_cons_zero, Act.put, List.setIfInBounds_toArray, List.set_cons_zero, List.set_cons_succ]
        refine wpAnyH_ready (rs := [13]) (by kernel_rfl) (by simp) ?_
        refine AllReadyH.cons rfl (fun K hK => ?_) AllReadyH.nil
        go_simp
        refine hK.out _ _ (k9.trans (Keep.set _ _ _ (by simp))) (fun _ => ?_)
        clear hK K
        refine wpAnyH_done (by kernel_rfl) ?_ _
        refine NoPanic.normal ?_
        have zz := HZ.out
        have dl := HDL.out
        have hO := HO.out
        have dS : BS ∉ L := fun h => (hO.2.2 BS h).2.1 rfl
        have hT10 := (HT6.out.keep k69 dl.1 dS dl.2.1).set_en 0 (.slice (some ⟨g, 0, none⟩) (k + 1) cap)
        rw [if_pos rfl] at hT10
        have k910 := Keep.set (L := [BK]) w9 ⟨BK, 0, none⟩ (.slice (some ⟨g, 0, none⟩) (k + 1) cap) (by simp)
        obtain ⟨w10, h10⟩ : ∃ W : World, W = w9.setCell ⟨BK, 0, none⟩ (.slice (some ⟨g, 0, none⟩) (k + 1) cap) := ⟨_, rfl⟩
        rw [← h10] at hT10 k910
        have k10 : Keep (BK :: L) w6 w10 := k9.trans (k910.mono (by simp))
        have ge9 : w6.heap.size < w9.heap.size := by have := k89.size; omega
        have gBK : g ≠ BK := by
          rcases hat with e | e
          · exact fun e' => dl.2.1 (e' ▸ hO.2.1 _ e)
          · have := hkBK; have := HO6.out.2; omega
        have own10 : w10.ownsRow B 76 1 (.slice (some ⟨g, 0, none⟩) (k + 1) cap) (k + 1) (xs ++ [.pointer (some ⟨w6.heap.size, 0, none⟩)]) := own_keep hown9 k910 (fun x hx => by cases hx; simpa using gBK)
        have n6L : w6.heap.size ∉ L := fun h => by have := (hO.2.2 _ h).2.2.2; have := HO6.out.2; omega
        have E10 : Ent w10 w6.heap.size i (lo4 p) z q n 0 0 0 := (Ent.new (by rw [k89.block w6.heap.size (by omega) n6L]; exact E8.out) hn0 hn1).keep k910 (by simp; have := hkBK; have := HO6.out.2; omega)
        have ges : (g ∈ L ∨ w.heap.size ≤ g) ∧ g ≠ w6.heap.size := by
          rcases hat with e | e
          · have := hO.2.1 _ e
            exact ⟨.inl this, fun e' => n6L (e' ▸ this)⟩
          · have := HO6.out.2
            exact ⟨.inr (by omega), by omega⟩
        have hgz : g ≠ w.heap.size + 1 + 1 := by
          rcases hat with e | e
          · have := (hO.2.2 g (hO.2.1 _ e)).2.2.2; omega
          · have := HK6.out.size; omega
        have nz2 : w.heap.size + 1 + 1 ∉ BK :: L := by
          simp only [List.mem_cons, not_or]
          exact ⟨by have := hkBK; omega, fun h => by have := (hO.2.2 _ h).2.2.2; omega⟩
        have r10 : roomAt w10 (w.heap.size + 1 + 1) 24 := k10.room _ 24 (by have := HK6.out.size; omega) nz2 (HK6.out.room _ 24 (by omega) (by simp; omega) HR0.out)
        have yy0 := y0 w10 k10
        have yy1 := y1 w10 k10
        have yy2 := y2 w10 k10
        obtain ⟨e1, d1'⟩ := hT10.k1
        obtain ⟨e2, d2'⟩ := hT10.k2
        obtain ⟨e3, d3'⟩ := hT10.k3
        have f10 := hT10.fK
        have dn5 : ¬ BK = w.heap.size + 1 := by have := hkBK; omega
        have dn6 : ¬ w.heap.size + 1 = BK := by have := hkBK; omega
        have dn7 : ¬ BK = w.heap.size + 1 + 1 := by have := hkBK; omega
        have dn8 : ¬ w.heap.size + 1 + 1 = BK := by have := hkBK; omega
        have bz := build49_zero
        have st := st49 zc49 zc49_size zc49_one (w.heap.size + 1 + 1)
        have H10 : Hid (Tab w10 T BS BK s 1 n (.slice (some ⟨g, 0, none⟩) (k + 1) cap) ∧ w10.ownsRow B 76 1 (.slice (some ⟨g, 0, none⟩) (k + 1) cap) (k + 1) (xs ++ [.pointer (some ⟨w6.heap.size, 0, none⟩)]) ∧ Ent w10 w6.heap.size i (lo4 p) z q n 0 0 0 ∧ ((g ∈ L ∨ w.heap.size ≤ g) ∧ g ≠ w6.heap.size) ∧ Keep (BK :: L) w6 w10 ∧ w6.heap.size < w9.heap.size ∧ g ≠ BK ∧ g < w9.heap.size ∧ w9.heap.size ≤ w10.heap.size) := ⟨hT10, own10, E10, ges, k10, ge9, gBK, hlt, k910.size⟩
        rw [← h10]
        clear h10 k910 hT10 own10 E10 ges k10 ge9 gBK n6L nz2 dS hO dl zz hat hgrow hown9 k89 k69 k9 c9 f9 d1 d2 d3 y0 y1 y2 rc rb be fK u8 own8 z8 hb8 E8
        go_wp2_with fail
        have h10 := H10.out
        have hO := HO.out
        have zz := HZ.out
        have lTw := zz.2
        have hT11 := ((h10.1.set_en 1 (.int .u64 (n % 1000000000))).set_en 2 (.int .i64 (n / 1000000000))).set_en 3 (.pointer none)
        rw [if_neg (by decide), if_neg (by decide), if_neg (by decide)] at hT11
        have k11 : Keep [BK] w10 (((w10.setCell ⟨BK, 1, none⟩ (.int .u64 (n % 1000000000))).setCell ⟨BK, 2, none⟩ (.int .i64 (n / 1000000000))).setCell ⟨BK, 3, none⟩ (.pointer none)) := ((Keep.set _ _ _ (by simp)).trans (Keep.set _ _ _ (by simp))).trans (Keep.set _ _ _ (by simp))
        have r11 : roomAt (((w10.setCell ⟨BK, 1, none⟩ (.int .u64 (n % 1000000000))).setCell ⟨BK, 2, none⟩ (.int .i64 (n / 1000000000))).setCell ⟨BK, 3, none⟩ (.pointer none)) (w.heap.size + 1 + 1) 24 := by rw [roomAt_set, roomAt_set, roomAt_set]; exact r10
        obtain ⟨w11, h11⟩ : ∃ W : World, W = ((w10.setCell ⟨BK, 1, none⟩ (.int .u64 (n % 1000000000))).setCell ⟨BK, 2, none⟩ (.int .i64 (n / 1000000000))).setCell ⟨BK, 3, none⟩ (.pointer none) := ⟨_, rfl⟩
        rw [← h11] at hT11 k11 r11
        rw [← h11]
        clear h11
        have k12 := Keep.cells w11 (w.heap.size + 1 + 1) 0 zc49.toList
        have lS := h10.1.lS
        have gL : ∀ x, x < w.heap.size → x ∉ [w.heap.size + 1 + 1] := fun x hx => by simp; omega
        have hT12 := hT11.keep k12 (gL T zz.2) (gL BS hBSw) (gL BK hkBK)
        have l49 := ld49_other zc49 zc49_size (w.heap.size + 1 + 1) w11 ⟨T, 20, none⟩ (.int .i32 0) (by show T ≠ _; omega) r11
        have e6 : w.heap.size ≤ w6.heap.size := HO6.out.2
        have e7 : w.heap.size + 1 + 1 + 1 ≤ w6.heap.size := by have := HK6.out.size; omega
        have gT : g ≠ T ∧ g ≠ w.heap.size + 1 + 1 := by
          rcases h10.2.2.2.1.1 with e | e
          · have := hO.2.2 g e; exact ⟨this.1, by omega⟩
          · exact ⟨by omega, hgz⟩
        have k23 : Keep [T] (w11.setCells (w.heap.size + 1 + 1) 0 zc49.toList) ((w11.setCells (w.heap.size + 1 + 1) 0 zc49.toList).setCell ⟨T, 20, none⟩ (.int .i32 0)) := Keep.set _ _ _ (by simp)
        refine leaves_cons (f := 18) (args := #[.pointer (some ⟨T, 20, none⟩)]) (by simp) (by simp [go_sem]) ?_
        refine (unlock_deferred muLib ⟨T, 20, none⟩ .returning _ hT12.mu (hT12.fT 20)).mono ?_
        rintro e u' w'' ⟨rfl, rfl, rfl⟩
        refine ⟨.tuple #[.agg zc49, .bool false], ?_, rfl, ⟨g, cap, w6.heap.size, hT12.set_mu 0, ?_, ?_, e6, h10.2.2.2.1.1, h10.2.2.2.1.2⟩, ?_⟩
        · simp [results, Tryd.results10, go_sem, l49]
        · refine own_keep (own_keep (own_keep h10.2.1 k11 ?_) k12 ?_) k23 ?_
          · intro x hx; cases hx; simpa using h10.2.2.2.2.2.2.1
          · intro x hx; cases hx; simpa using gT.2
          · intro x hx; cases hx; simpa using gT.1
        · refine ((h10.2.2.1.keep k11 ?_).keep k12 ?_).keep k23 ?_
          · simp; omega
          · simp; omega
          · simp; omega
        · refine Keep.trans (Keep.fresh (Keep.trans (Keep.trans ((Keep.ofBelow HB.out).trans (HK6.out.mono ?_)) (h10.2.2.2.2.1.mono ?_)) (k11.mono ?_)) k12 (by omega)) (k23.mono ?_)
          · simp
          · exact fun x hx => List.mem_cons_of_mem _ hx
          · simp
          · simp

  · have hgt1 : decide (la < n) = false := by simpa using hgt
    have hT3 := HT1.out.below hn (Nat.le_refl _)
    have hK3 := HK1.out.trans (Keep.ofBelow hn)
    have hk12 := Keep.ofBelow (L := [T]) hn
    have zz := HZ.out
    have hX3 := HX1.out.keep hk12 (by simp; omega) (by simp; omega)
    have hR3 := hK3.room (w.heap.size + 1 + 1) 24 (by omega) (by simp; omega) HR0.out
    have hfind := HF.out _ la ((Keep.ofBelow HB.out).trans hK3) hT3
    have i3 := hX3.id
    have dn1 : ¬ T = w.heap.size := by omega
    have dn2 : ¬ w.heap.size = T := by omega
    go_wp2_with fail
    refine hfind.mono ?_
    rintro e w4 ⟨rfl, hb4⟩
    have hT4 := hT3.below hb4 (Nat.le_refl _)
    have hX4 := hX3.keep (l := []) (Keep.ofBelow hb4) (by simp) (by simp)
    have hK4 : Keep [T] W0 w4 := hK3.trans (Keep.ofBelow hb4)
    clear hT3 hX3 hK3 hR3 hk12 i3 hfind hb4 hn hb rT23 rT24 rT25 y0 y1 y2 fT hS0 haf HT1 HX1 HK1 HF
    have hbk := bucketFor_any T BS BK s i 1 la _ w4 hT4
    have i4 := hX4.id
    have HT4 : Hid (Tab w4 T BS BK s 1 la (.slice so k c)) := hT4
    have HX4 : Hid (Box w4 w.heap.size (w.heap.size + 1) i (lo4 p) z q n) := hX4
    have HK4 : Hid (Keep [T] W0 w4) := hK4
    clear hT4 hX4 hK4 zz
    go_wp2_with fail
    refine hbk.mono ?_
    rintro e w5 ⟨rfl, hb5⟩
    have hT5 := HT4.out.below hb5 (Nat.le_refl _)
    have hX5 := HX4.out.keep (l := []) (Keep.ofBelow hb5) (by simp) (by simp)
    have hK5 : Keep [T] W0 w5 := HK4.out.trans (Keep.ofBelow hb5)
    have en5 := hT5.en
    have HT5 : Hid (Tab w5 T BS BK s 1 la (.slice so k c)) := hT5
    have HX5 : Hid (Box w5 w.heap.size (w.heap.size + 1) i (lo4 p) z q n) := hX5
    have HK5 : Hid (Keep [T] W0 w5) := hK5
    clear hT5 hX5 hK5 HT4 HX4 HK4 hbk i4 hb5
    go_wp2_with fail
    go_loop [11] (fun v => v = .pointer (some ⟨BK, 0, none⟩)) (fun _ => 0)
    case atStart => rfl
    case round =>
    obtain rfl := hrel
    go_wp2_with fail
    go_quiet (fail)
    obtain ⟨w6, h6⟩ : ∃ W : World, W = w5.drewN nq := ⟨_, rfl⟩
    have hb6 : Below w5.heap.size w5 w6 := by rw [h6]; exact below_drewN (Below.refl _ _) _
    rw [← h6]
    clear h6 en5
    have hT6 := HT5.out.below hb6 (Nat.le_refl _)
    have hX6 := HX5.out.keep (l := []) (Keep.ofBelow hb6) (by simp) (by simp)
    have hK6 : Keep [T] W0 w6 := HK5.out.trans (Keep.ofBelow hb6)
    have en6 := hT6.en
    go_wp2_with fail
    clear en6
    have hO := HO.out
    have dT : T ∉ L := fun h => (hO.2.2 T h).1 rfl
    have dK : BK ∉ L := fun h => (hO.2.2 BK h).2.2.1 rfl
    have dc : w.heap.size ∉ L := fun h => by have := (hO.2.2 _ h).2.2.2; omega
    have dt : w.heap.size + 1 ∉ L := fun h => by have := (hO.2.2 _ h).2.2.2; omega
    have rb := hT6.en
    have lK6 := hT6.lK
    have fK := hT6.fK
    have lKw : BK < w.heap.size := hkBK
    have dcc : w.heap.size ∉ BK :: L := by simp only [List.mem_cons, not_or]; exact ⟨by omega, dc⟩
    have dtt : w.heap.size + 1 ∉ BK :: L := by simp only [List.mem_cons, not_or]; exact ⟨by omega, dt⟩
    have rc : ∀ W, Keep (BK :: L) w6 W → (loadVar 49 ⟨w.heap.size, 0, none⟩).run Tryd.prog W = .ok (.agg (ctv i p z q)) W := fun W hb => (hX6.keep hb dcc dtt).ld
    have y0 : ∀ W, Keep (BK :: L) w6 W → W.cell? ⟨w.heap.size + 1, 0, none⟩ = some (.int .u64 (n % 1000000000)) := fun W hb => (hX6.keep hb dcc dtt).t0
    have y1 : ∀ W, Keep (BK :: L) w6 W → W.cell? ⟨w.heap.size + 1, 1, none⟩ = some (.int .i64 (n / 1000000000)) := fun W hb => (hX6.keep hb dcc dtt).t1
    have y2 : ∀ W, Keep (BK :: L) w6 W → W.cell? ⟨w.heap.size + 1, 2, none⟩ = some (.pointer none) := fun W hb => (hX6.keep hb dcc dtt).t2
    have be := build_env i p z q n
    have hkW : Keep [T] w w6 := (Keep.ofBelow HB.out).trans hK6
    have own6 : w6.ownsRow B 76 1 (.slice so k c) k xs := own_keep hO.1 hkW (fun x hx => by have := (hO.2.2 x (hO.2.1 x hx)).1; simpa using this)
    have hz6 := hkW.size
    have HT6 : Hid (Tab w6 T BS BK s 1 la (.slice so k c)) := hT6
    have HX6 : Hid (Box w6 w.heap.size (w.heap.size + 1) i (lo4 p) z q n) := hX6
    have HK6 : Hid (Keep [T] W0 w6) := hK6
    have HO6 : Hid (w6.ownsRow B 76 1 (.slice so k c) k xs ∧ w.heap.size ≤ w6.heap.size) := ⟨own6, hz6⟩
    have HDL : Hid (T ∉ L ∧ BK ∉ L ∧ w.heap.size ∉ L ∧ w.heap.size + 1 ∉ L) := ⟨dT, dK, dc, dt⟩
    clear hT6 hX6 hK6 hb6 HT5 HX5 HK5 hO hkW own6 hz6 dT dK dc dt dcc dtt
    refine wp_region_noPanic ?_
    refine wp_region_held_drew (S := fun w' => Keep (BK :: L) w6 w') (by kernel_rfl) (Keep.ofBelow (Below.refl _ _).drew) (fun hHeld => ?_)
    refine wpAnyH_take (i := 0) (v := ?v0_14) rfl (by kernel_rfl) (by kernel_rfl) (by kernel_rfl) (fun _ _ _ h => h) (Or.inl ⟨by rfl, ?y0_14⟩) (by assumption) ?r0_14
    case y0_14 => intro w hSw; go_simp; try with_reducible rfl
    simp only [List.getElem_toArray, List.getElem_cons_succ, List.getElem_cons_zero, Act.put, List.setIfInBounds_toArray, List.set_cons_zero, List.set_cons_succ]
    refine wpAnyH_take (i := 1) (v := ?v1_15) rfl (by kernel_rfl) (by kernel_rfl) (by kernel_rfl) (fun _ _ _ h => h) (Or.inl ⟨by rfl, ?y1_15⟩) (by assumption) ?r1_15
    case y1_15 => intro w hSw; go_simp; try with_reducible rfl
    simp only [List.getElem_toArray, List.getElem_cons_succ, List.getElem_cons_zero, Act.put, List.setIfInBounds_toArray, List.set_cons_zero, List.set_cons_succ]
    refine wpAnyH_take (i := 2) (v := ?v2_16) rfl (by kernel_rfl) (by kernel_rfl) (by kernel_rfl) (fun _ _ _ h => h) (Or.inl ⟨by rfl, ?y2_16⟩) (by assumption) ?r2_16
    case y2_16 => intro w hSw; go_simp; try with_reducible rfl
    simp only [List.getElem_toArray, List.getElem_cons_succ, List.getElem_cons_zero, Act.put, List.setIfInBounds_toArray, List.set_cons_zero, List.set_cons_succ]
    refine wpAnyH_take (i := 3) (v := ?v3_17) rfl (by kernel_rfl) (by kernel_rfl) (by kernel_rfl) (fun _ _ _ h => h) (Or.inl ⟨by rfl, ?y3_17⟩) (by assumption) ?r3_17
    case y3_17 => intro w hSw; go_simp; try with_reducible rfl
    simp only [List.getElem_toArray, List.getElem_cons_succ, List.getElem_cons_zero, Act.put, List.setIfInBounds_toArray, List.set_cons_zero, List.set_cons_succ]
    refine wpAnyH_take (i := 5) (v := ?v5_18) rfl (by kernel_rfl) (by kernel_rfl) (by kernel_rfl) (fun _ _ _ h => h) (Or.inl ⟨by rfl, ?y5_18⟩) (by assumption) ?r5_18
    case y5_18 => intro w hSw; go_simp; try with_reducible rfl
    simp only [List.getElem_toArray, List.getElem_cons_succ, List.getElem_cons_zero, Act.put, List.setIfInBounds_toArray, List.set_cons_zero, List.set_cons_succ]
    refine wpAnyH_take (i := 6) (v := ?v6_19) rfl (by kernel_rfl) (by kernel_rfl) (by kernel_rfl) (fun _ _ _ h => h) (Or.inl ⟨by rfl, ?y6_19⟩) (by assumption) ?r6_19
    case y6_19 => intro w hSw; go_simp; try with_reducible rfl
    simp only [List.getElem_toArray, List.getElem_cons_succ, List.getElem_cons_zero, Act.put, List.setIfInBounds_toArray, List.set_cons_zero, List.set_cons_succ]
    refine wpAnyH_take (i := 7) (v := ?v7_20) rfl (by kernel_rfl) (by kernel_rfl) (by kernel_rfl) (fun _ _ _ h => h) (Or.inl ⟨by rfl, ?y7_20⟩) (by assumption) ?r7_20
    case y7_20 => intro w hSw; go_simp; try with_reducible rfl
    simp only [List.getElem_toArray, List.getElem_cons_succ, List.getElem_cons_zero, Act.put, List.setIfInBounds_toArray, List.set_cons_zero, List.set_cons_succ]
    refine wpAnyH_ready (rs := [4, 8]) (by kernel_rfl) (by simp) ?_
    refine AllReadyH.cons rfl (fun K hK => ?_) (AllReadyH.cons rfl (fun K hK => ?_) AllReadyH.nil)
    · go_simp
      refine hK.out _ _ (Keep.ofBelow (Below.refl _ _).drew) (fun hH4 => ?_)
      clear hK K
      refine wpAnyH_ready (rs := [8]) (by kernel_rfl) (by simp) ?_
      refine AllReadyH.cons rfl (fun K hK => ?_) AllReadyH.nil
      go_simp
      refine hK.out _ _ (Keep.ofBelow ((Below.refl w6.heap.size w6).alloc (Nat.le_refl _) _).drew) (fun hH8 => ?_)
      clear hK K
      refine wpAnyH_ready (rs := [9]) (by kernel_rfl) (by simp) ?_
      refine AllReadyH.cons rfl (fun K hK => ?_) AllReadyH.nil
      go_simp
      obtain ⟨w8, h8⟩ : ∃ W : World, W = ((w6.alloc (.cells (env i p z q n) 78)).alloc (.cells #[.pointer (some ⟨w6.heap.size, 0, none⟩)] 76)).drew := ⟨_, rfl⟩
      have hb8 : Below w6.heap.size w6 w8 := by rw [h8]; exact (((Below.refl w6.heap.size w6).alloc (Nat.le_refl _) _).alloc (by simp) _).drew
      have z8 : w8.heap.size = w6.heap.size + 1 + 1 := by rw [h8]; simp
      have u8 : w8.cell? ⟨w6.heap.size + 1, 0, none⟩ = some (.pointer (some ⟨w6.heap.size, 0, none⟩)) := by rw [h8]; simp
      have E8 : Hid (w8.heap[w6.heap.size]? = some (.cells (env i p z q n) 78)) := by
        show w8.heap[w6.heap.size]? = _
        rw [h8]
        show ((w6.heap.push _).push _)[w6.heap.size]? = _
        rw [Array.getElem?_push, if_neg (by simp), Array.getElem?_push, if_pos rfl]
      have own8 : w8.ownsRow B 76 1 (.slice so k c) k xs := own_keep HO6.out.1 (Keep.ofBelow (L := []) hb8) (by simp)
      rw [← h8]
      clear h8
      refine hK.out _ _ (Keep.ofBelow hb8) (fun _ => ?_)
      clear hK K
      refine wpAnyH_ready (rs := [10]) (by kernel_rfl) (by simp) ?_
      refine AllReadyH.cons rfl (fun K hK => ?_) AllReadyH.nil
      refine app58 w8 (by rfl) _ _ (by rfl) B (.slice so k c) k xs (by rfl) own8 (w6.heap.size + 1) 1 (.pointer (some ⟨w6.heap.size, 0, none⟩)) (by rfl) u8 rfl (by omega) (by have := HO6.out.2; omega) ?_
      intro g cap w9 hown9 hgrow hat hlt
      simp only [List.getElem_toArray, List.getElem_cons_succ, List.getElem_cons_zero, Act.put, List.setIfInBounds_toArray, List.set_cons_zero, List.set_cons_succ]
      have k89 : Keep L w8 w9 := ⟨hgrow.os, hgrow.tape, hgrow.output, hgrow.size, fun kk hk1 hn => hgrow.block kk hk1 (fun e => hn (HO.out.2.1 kk e.symm))⟩
      have k69 : Keep L w6 w9 := (Keep.ofBelow hb8).trans k89
      have k9 : Keep (BK :: L) w6 w9 := k69.mono (fun x hx => List.mem_cons_of_mem _ hx)
      refine hK.out _ _ k9 (fun _ => ?_)
      clear hK K
      have c9 : w9.cell? ⟨BK, 0, none⟩ = some (.slice so k c) := by rw [k69.cell BK 0 lK6 HDL.out.2.1]; exact rb
      have f9 : ∀ j, w9.frozen? ⟨BK, j, none⟩ = false := fun j => by rw [k69.frozen BK j lK6 HDL.out.2.1]; exact fK j
      obtain ⟨x1, hx1⟩ := HT6.out.k1
      obtain ⟨x2, hx2⟩ := HT6.out.k2
      obtain ⟨x3, hx3⟩ := HT6.out.k3
      have d1 : w9.cell? ⟨BK, 1, none⟩ = some x1 := by rw [k69.cell BK 1 lK6 HDL.out.2.1]; exact hx1
      have d2 : w9.cell? ⟨BK, 2, none⟩ = some x2 := by rw [k69.cell BK 2 lK6 HDL.out.2.1]; exact hx2
      have d3 : w9.cell? ⟨BK, 3, none⟩ = some x3 := by rw [k69.cell BK 3 lK6 HDL.out.2.1]; exact hx3
      clear hx1 hx2 hx3
      refine wpAnyH_take (i := 11) (v := ?v11_21) rfl (by kernel_rfl) (by kernel_rfl) (by kernel_rfl) (fun _ _ _ h => h) (Or.inl ⟨by rfl, ?y11_21⟩) (by assumption) ?r11_21
      case y11_21 => intro w hSw; go_simp; try with_reducible rfl
      simp only [List.getElem_toArray, List.getElem_cons_succ, List.getElem_cons_zero, Act.put, List.setIfInBounds_toArray, List.set_cons_zero, List.set_cons_succ]
      refine wpAnyH_take (i := 12) (v := ?v12_22) rfl (by kernel_rfl) (by kernel_rfl) (by kernel_rfl) (fun _ _ _ h => h) (Or.inl ⟨by rfl, ?y12_22⟩) (by assumption) ?r12_22
      case y12_22 => intro w hSw; go_simp; try with_reducible rfl
      simp only [List.getElem_toArray, List.getElem_cons_succ, List.getElem_cons_zero, Act.put, List.setIfInBounds_toArray, List.set_cons_zero, List.set_cons_succ]
      refine wpAnyH_ready (rs := [13]) (by kernel_rfl) (by simp) ?_
      refine AllReadyH.cons rfl (fun K hK => ?_) AllReadyH.nil
      go_simp
      refine hK.out _ _ (k9.trans (Keep.set _ _ _ (by simp))) (fun _ => ?_)
      clear hK K
      refine wpAnyH_done (by kernel_rfl) ?_ _
      refine NoPanic.normal ?_
      have zz := HZ.out
      have dl := HDL.out
      have hO := HO.out
      have dS : BS ∉ L := fun h => (hO.2.2 BS h).2.1 rfl
      have hT10 := (HT6.out.keep k69 dl.1 dS dl.2.1).set_en 0 (.slice (some ⟨g, 0, none⟩) (k + 1) cap)
      rw [if_pos rfl] at hT10
      have k910 := Keep.set (L := [BK]) w9 ⟨BK, 0, none⟩ (.slice (some ⟨g, 0, none⟩) (k + 1) cap) (by simp)
      obtain ⟨w10, h10⟩ : ∃ W : World, W = w9.setCell ⟨BK, 0, none⟩ (.slice (some ⟨g, 0, none⟩) (k + 1) cap) := ⟨_, rfl⟩
      rw [← h10] at hT10 k910
      have k10 : Keep (BK :: L) w6 w10 := k9.trans (k910.mono (by simp))
      have ge9 : w6.heap.size < w9.heap.size := by have := k89.size; omega
      have gBK : g ≠ BK := by
        rcases hat with e | e
        · exact fun e' => dl.2.1 (e' ▸ hO.2.1 _ e)
        · have := hkBK; have := HO6.out.2; omega
      have own10 : w10.ownsRow B 76 1 (.slice (some ⟨g, 0, none⟩) (k + 1) cap) (k + 1) (xs ++ [.pointer (some ⟨w6.heap.size, 0, none⟩)]) := own_keep hown9 k910 (fun x hx => by cases hx; simpa using gBK)
      have n6L : w6.heap.size ∉ L := fun h => by have := (hO.2.2 _ h).2.2.2; have := HO6.out.2; omega
      have E10 : Ent w10 w6.heap.size i (lo4 p) z q n 0 0 0 := (Ent.new (by rw [k89.block w6.heap.size (by omega) n6L]; exact E8.out) hn0 hn1).keep k910 (by simp; have := hkBK; have := HO6.out.2; omega)
      have ges : (g ∈ L ∨ w.heap.size ≤ g) ∧ g ≠ w6.heap.size := by
        rcases hat with e | e
        · have := hO.2.1 _ e
          exact ⟨.inl this, fun e' => n6L (e' ▸ this)⟩
        · have := HO6.out.2
          exact ⟨.inr (by omega), by omega⟩
      have hgz : g ≠ w.heap.size + 1 + 1 := by
        rcases hat with e | e
        · have := (hO.2.2 g (hO.2.1 _ e)).2.2.2; omega
        · have := HK6.out.size; omega
      have nz2 : w.heap.size + 1 + 1 ∉ BK :: L := by
        simp only [List.mem_cons, not_or]
        exact ⟨by have := hkBK; omega, fun h => by have := (hO.2.2 _ h).2.2.2; omega⟩
      have r10 : roomAt w10 (w.heap.size + 1 + 1) 24 := k10.room _ 24 (by have := HK6.out.size; omega) nz2 (HK6.out.room _ 24 (by omega) (by simp; omega) HR0.out)
      have yy0 := y0 w10 k10
      have yy1 := y1 w10 k10
      have yy2 := y2 w10 k10
      obtain ⟨e1, d1'⟩ := hT10.k1
      obtain ⟨e2, d2'⟩ := hT10.k2
      obtain ⟨e3, d3'⟩ := hT10.k3
      have f10 := hT10.fK
      have dn5 : ¬ BK = w.heap.size + 1 := by have := hkBK; omega
      have dn6 : ¬ w.heap.size + 1 = BK := by have := hkBK; omega
      have dn7 : ¬ BK = w.heap.size + 1 + 1 := by have := hkBK; omega
      have dn8 : ¬ w.heap.size + 1 + 1 = BK := by have := hkBK; omega
      have bz := build49_zero
      have st := st49 zc49 zc49_size zc49_one (w.heap.size + 1 + 1)
      have H10 : Hid (Tab w10 T BS BK s 1 la (.slice (some ⟨g, 0, none⟩) (k + 1) cap) ∧ w10.ownsRow B 76 1 (.slice (some ⟨g, 0, none⟩) (k + 1) cap) (k + 1) (xs ++ [.pointer (some ⟨w6.heap.size, 0, none⟩)]) ∧ Ent w10 w6.heap.size i (lo4 p) z q n 0 0 0 ∧ ((g ∈ L ∨ w.heap.size ≤ g) ∧ g ≠ w6.heap.size) ∧ Keep (BK :: L) w6 w10 ∧ w6.heap.size < w9.heap.size ∧ g ≠ BK ∧ g < w9.heap.size ∧ w9.heap.size ≤ w10.heap.size) := ⟨hT10, own10, E10, ges, k10, ge9, gBK, hlt, k910.size⟩
      rw [← h10]
      clear h10 k910 hT10 own10 E10 ges k10 ge9 gBK n6L nz2 dS hO dl zz hat hgrow hown9 k89 k69 k9 c9 f9 d1 d2 d3 y0 y1 y2 rc rb be fK u8 own8 z8 hb8 E8
      go_wp2_with fail
      have h10 := H10.out
      have hO := HO.out
      have zz := HZ.out
      have lTw := zz.2
      have hT11 := ((h10.1.set_en 1 (.int .u64 (n % 1000000000))).set_en 2 (.int .i64 (n / 1000000000))).set_en 3 (.pointer none)
      rw [if_neg (by decide), if_neg (by decide), if_neg (by decide)] at hT11
      have k11 : Keep [BK] w10 (((w10.setCell ⟨BK, 1, none⟩ (.int .u64 (n % 1000000000))).setCell ⟨BK, 2, none⟩ (.int .i64 (n / 1000000000))).setCell ⟨BK, 3, none⟩ (.pointer none)) := ((Keep.set _ _ _ (by simp)).trans (Keep.set _ _ _ (by simp))).trans (Keep.set _ _ _ (by simp))
      have r11 : roomAt (((w10.setCell ⟨BK, 1, none⟩ (.int .u64 (n % 1000000000))).setCell ⟨BK, 2, none⟩ (.int .i64 (n / 1000000000))).setCell ⟨BK, 3, none⟩ (.pointer none)) (w.heap.size + 1 + 1) 24 := by rw [roomAt_set, roomAt_set, roomAt_set]; exact r10
      obtain ⟨w11, h11⟩ : ∃ W : World, W = ((w10.setCell ⟨BK, 1, none⟩ (.int .u64 (n % 1000000000))).setCell ⟨BK, 2, none⟩ (.int .i64 (n / 1000000000))).setCell ⟨BK, 3, none⟩ (.pointer none) := ⟨_, rfl⟩
      rw [← h11] at hT11 k11 r11
      rw [← h11]
      clear h11
      have k12 := Keep.cells w11 (w.heap.size + 1 + 1) 0 zc49.toList
      have lS := h10.1.lS
      have gL : ∀ x, x < w.heap.size → x ∉ [w.heap.size + 1 + 1] := fun x hx => by simp; omega
      have hT12 := hT11.keep k12 (gL T zz.2) (gL BS hBSw) (gL BK hkBK)
      have l49 := ld49_other zc49 zc49_size (w.heap.size + 1 + 1) w11 ⟨T, 20, none⟩ (.int .i32 0) (by show T ≠ _; omega) r11
      have e6 : w.heap.size ≤ w6.heap.size := HO6.out.2
      have e7 : w.heap.size + 1 + 1 + 1 ≤ w6.heap.size := by have := HK6.out.size; omega
      have gT : g ≠ T ∧ g ≠ w.heap.size + 1 + 1 := by
        rcases h10.2.2.2.1.1 with e | e
        · have := hO.2.2 g e; exact ⟨this.1, by omega⟩
        · exact ⟨by omega, hgz⟩
      have k23 : Keep [T] (w11.setCells (w.heap.size + 1 + 1) 0 zc49.toList) ((w11.setCells (w.heap.size + 1 + 1) 0 zc49.toList).setCell ⟨T, 20, none⟩ (.int .i32 0)) := Keep.set _ _ _ (by simp)
      refine leaves_cons (f := 18) (args := #[.pointer (some ⟨T, 20, none⟩)]) (by simp) (by simp [go_sem]) ?_
      refine (unlock_deferred muLib ⟨T, 20, none⟩ .returning _ hT12.mu (hT12.fT 20)).mono ?_
      rintro e u' w'' ⟨rfl, rfl, rfl⟩
      refine ⟨.tuple #[.agg zc49, .bool false], ?_, rfl, ⟨g, cap, w6.heap.size, hT12.set_mu 0, ?_, ?_, e6, h10.2.2.2.1.1, h10.2.2.2.1.2⟩, ?_⟩
      · simp [results, Tryd.results10, go_sem, l49]
      · refine own_keep (own_keep (own_keep h10.2.1 k11 ?_) k12 ?_) k23 ?_
        · intro x hx; cases hx; simpa using h10.2.2.2.2.2.2.1
        · intro x hx; cases hx; simpa using gT.2
        · intro x hx; cases hx; simpa using gT.1
      · refine ((h10.2.2.1.keep k11 ?_).keep k12 ?_).keep k23 ?_
        · simp; omega
        · simp; omega
        · simp; omega
      · refine Keep.trans (Keep.fresh (Keep.trans (Keep.trans ((Keep.ofBelow HB.out).trans (HK6.out.mono ?_)) (h10.2.2.2.2.1.mono ?_)) (k11.mono ?_)) k12 (by omega)) (k23.mono ?_)
        · simp
        · exact fun x hx => List.mem_cons_of_mem _ hx
        · simp
        · simp
    · go_simp
      refine hK.out _ _ (Keep.ofBelow ((Below.refl w6.heap.size w6).alloc (Nat.le_refl _) _).drew) (fun hH8 => ?_)
      clear hK K
      refine wpAnyH_ready (rs := [4, 9]) (by kernel_rfl) (by simp) ?_
      refine AllReadyH.cons rfl (fun K hK => ?_) (AllReadyH.cons rfl (fun K hK => ?_) AllReadyH.nil)
      · go_simp
        refine hK.out _ _ (Keep.ofBelow ((Below.refl w6.heap.size w6).alloc (Nat.le_refl _) _).drew) (fun hH4 => ?_)
        clear hK K
        refine wpAnyH_ready (rs := [9]) (by kernel_rfl) (by simp) ?_
        refine AllReadyH.cons rfl (fun K hK => ?_) AllReadyH.nil
        go_simp
        obtain ⟨w8, h8⟩ : ∃ W : World, W = ((w6.alloc (.cells (env i p z q n) 78)).alloc (.cells #[.pointer (some ⟨w6.heap.size, 0, none⟩)] 76)).drew := ⟨_, rfl⟩
        have hb8 : Below w6.heap.size w6 w8 := by rw [h8]; exact (((Below.refl w6.heap.size w6).alloc (Nat.le_refl _) _).alloc (by simp) _).drew
        have z8 : w8.heap.size = w6.heap.size + 1 + 1 := by rw [h8]; simp
        have u8 : w8.cell? ⟨w6.heap.size + 1, 0, none⟩ = some (.pointer (some ⟨w6.heap.size, 0, none⟩)) := by rw [h8]; simp
        have E8 : Hid (w8.heap[w6.heap.size]? = some (.cells (env i p z q n) 78)) := by
          show w8.heap[w6.heap.size]? = _
          rw [h8]
          show ((w6.heap.push _).push _)[w6.heap.size]? = _
          rw [Array.getElem?_push, if_neg (by simp), Array.getElem?_push, if_pos rfl]
        have own8 : w8.ownsRow B 76 1 (.slice so k c) k xs := own_keep HO6.out.1 (Keep.ofBelow (L := []) hb8) (by simp)
        rw [← h8]
        clear h8
        refine hK.out _ _ (Keep.ofBelow hb8) (fun _ => ?_)
        clear hK K
        refine wpAnyH_ready (rs := [10]) (by kernel_rfl) (by simp) ?_
        refine AllReadyH.cons rfl (fun K hK => ?_) AllReadyH.nil
        refine app58 w8 (by rfl) _ _ (by rfl) B (.slice so k c) k xs (by rfl) own8 (w6.heap.size + 1) 1 (.pointer (some ⟨w6.heap.size, 0, none⟩)) (by rfl) u8 rfl (by omega) (by have := HO6.out.2; omega) ?_
        intro g cap w9 hown9 hgrow hat hlt
        simp only [List.getElem_toArray, List.getElem_cons_succ, List.getElem_cons_zero, Act.put, List.setIfInBounds_toArray, List.set_cons_zero, List.set_cons_succ]
        have k89 : Keep L w8 w9 := ⟨hgrow.os, hgrow.tape, hgrow.output, hgrow.size, fun kk hk1 hn => hgrow.block kk hk1 (fun e => hn (HO.out.2.1 kk e.symm))⟩
        have k69 : Keep L w6 w9 := (Keep.ofBelow hb8).trans k89
        have k9 : Keep (BK :: L) w6 w9 := k69.mono (fun x hx => List.mem_cons_of_mem _ hx)
        refine hK.out _ _ k9 (fun _ => ?_)
        clear hK K
        have c9 : w9.cell? ⟨BK, 0, none⟩ = some (.slice so k c) := by rw [k69.cell BK 0 lK6 HDL.out.2.1]; exact rb
        have f9 : ∀ j, w9.frozen? ⟨BK, j, none⟩ = false := fun j => by rw [k69.frozen BK j lK6 HDL.out.2.1]; exact fK j
        obtain ⟨x1, hx1⟩ := HT6.out.k1
        obtain ⟨x2, hx2⟩ := HT6.out.k2
        obtain ⟨x3, hx3⟩ := HT6.out.k3
        have d1 : w9.cell? ⟨BK, 1, none⟩ = some x1 := by rw [k69.cell BK 1 lK6 HDL.out.2.1]; exact hx1
        have d2 : w9.cell? ⟨BK, 2, none⟩ = some x2 := by rw [k69.cell BK 2 lK6 HDL.out.2.1]; exact hx2
        have d3 : w9.cell? ⟨BK, 3, none⟩ = some x3 := by rw [k69.cell BK 3 lK6 HDL.out.2.1]; exact hx3
        clear hx1 hx2 hx3
        refine wpAnyH_take (i := 11) (v := ?v11_23) rfl (by kernel_rfl) (by kernel_rfl) (by kernel_rfl) (fun _ _ _ h => h) (Or.inl ⟨by rfl, ?y11_23⟩) (by assumption) ?r11_23
        case y11_23 => intro w hSw; go_simp; try with_reducible rfl
        simp only [List.getElem_toArray, List.getElem_cons_succ, List.getElem_cons_zero, Act.put, List.setIfInBounds_toArray, List.set_cons_zero, List.set_cons_succ]
        refine wpAnyH_take (i := 12) (v := ?v12_24) rfl (by kernel_rfl) (by kernel_rfl) (by kernel_rfl) (fun _ _ _ h => h) (Or.inl ⟨by rfl, ?y12_24⟩) (by assumption) ?r12_24
        case y12_24 => intro w hSw; go_simp; try with_reducible rfl
        simp only [List.getElem_toArray, List.getElem_cons_succ, List.getElem_cons_zero, Act.put, List.setIfInBounds_toArray, List.set_cons_zero, List.set_cons_succ]
        refine wpAnyH_ready (rs := [13]) (by kernel_rfl) (by simp) ?_
        refine AllReadyH.cons rfl (fun K hK => ?_) AllReadyH.nil
        go_simp
        refine hK.out _ _ (k9.trans (Keep.set _ _ _ (by simp))) (fun _ => ?_)
        clear hK K
        refine wpAnyH_done (by kernel_rfl) ?_ _
        refine NoPanic.normal ?_
        have zz := HZ.out
        have dl := HDL.out
        have hO := HO.out
        have dS : BS ∉ L := fun h => (hO.2.2 BS h).2.1 rfl
        have hT10 := (HT6.out.keep k69 dl.1 dS dl.2.1).set_en 0 (.slice (some ⟨g, 0, none⟩) (k + 1) cap)
        rw [if_pos rfl] at hT10
        have k910 := Keep.set (L := [BK]) w9 ⟨BK, 0, none⟩ (.slice (some ⟨g, 0, none⟩) (k + 1) cap) (by simp)
        obtain ⟨w10, h10⟩ : ∃ W : World, W = w9.setCell ⟨BK, 0, none⟩ (.slice (some ⟨g, 0, none⟩) (k + 1) cap) := ⟨_, rfl⟩
        rw [← h10] at hT10 k910
        have k10 : Keep (BK :: L) w6 w10 := k9.trans (k910.mono (by simp))
        have ge9 : w6.heap.size < w9.heap.size := by have := k89.size; omega
        have gBK : g ≠ BK := by
          rcases hat with e | e
          · exact fun e' => dl.2.1 (e' ▸ hO.2.1 _ e)
          · have := hkBK; have := HO6.out.2; omega
        have own10 : w10.ownsRow B 76 1 (.slice (some ⟨g, 0, none⟩) (k + 1) cap) (k + 1) (xs ++ [.pointer (some ⟨w6.heap.size, 0, none⟩)]) := own_keep hown9 k910 (fun x hx => by cases hx; simpa using gBK)
        have n6L : w6.heap.size ∉ L := fun h => by have := (hO.2.2 _ h).2.2.2; have := HO6.out.2; omega
        have E10 : Ent w10 w6.heap.size i (lo4 p) z q n 0 0 0 := (Ent.new (by rw [k89.block w6.heap.size (by omega) n6L]; exact E8.out) hn0 hn1).keep k910 (by simp; have := hkBK; have := HO6.out.2; omega)
        have ges : (g ∈ L ∨ w.heap.size ≤ g) ∧ g ≠ w6.heap.size := by
          rcases hat with e | e
          · have := hO.2.1 _ e
            exact ⟨.inl this, fun e' => n6L (e' ▸ this)⟩
          · have := HO6.out.2
            exact ⟨.inr (by omega), by omega⟩
        have hgz : g ≠ w.heap.size + 1 + 1 := by
          rcases hat with e | e
          · have := (hO.2.2 g (hO.2.1 _ e)).2.2.2; omega
          · have := HK6.out.size; omega
        have nz2 : w.heap.size + 1 + 1 ∉ BK :: L := by
          simp only [List.mem_cons, not_or]
          exact ⟨by have := hkBK; omega, fun h => by have := (hO.2.2 _ h).2.2.2; omega⟩
        have r10 : roomAt w10 (w.heap.size + 1 + 1) 24 := k10.room _ 24 (by have := HK6.out.size; omega) nz2 (HK6.out.room _ 24 (by omega) (by simp; omega) HR0.out)
        have yy0 := y0 w10 k10
        have yy1 := y1 w10 k10
        have yy2 := y2 w10 k10
        obtain ⟨e1, d1'⟩ := hT10.k1
        obtain ⟨e2, d2'⟩ := hT10.k2
        obtain ⟨e3, d3'⟩ := hT10.k3
        have f10 := hT10.fK
        have dn5 : ¬ BK = w.heap.size + 1 := by have := hkBK; omega
        have dn6 : ¬ w.heap.size + 1 = BK := by have := hkBK; omega
        have dn7 : ¬ BK = w.heap.size + 1 + 1 := by have := hkBK; omega
        have dn8 : ¬ w.heap.size + 1 + 1 = BK := by have := hkBK; omega
        have bz := build49_zero
        have st := st49 zc49 zc49_size zc49_one (w.heap.size + 1 + 1)
        have H10 : Hid (Tab w10 T BS BK s 1 la (.slice (some ⟨g, 0, none⟩) (k + 1) cap) ∧ w10.ownsRow B 76 1 (.slice (some ⟨g, 0, none⟩) (k + 1) cap) (k + 1) (xs ++ [.pointer (some ⟨w6.heap.size, 0, none⟩)]) ∧ Ent w10 w6.heap.size i (lo4 p) z q n 0 0 0 ∧ ((g ∈ L ∨ w.heap.size ≤ g) ∧ g ≠ w6.heap.size) ∧ Keep (BK :: L) w6 w10 ∧ w6.heap.size < w9.heap.size ∧ g ≠ BK ∧ g < w9.heap.size ∧ w9.heap.size ≤ w10.heap.size) := ⟨hT10, own10, E10, ges, k10, ge9, gBK, hlt, k910.size⟩
        rw [← h10]
        clear h10 k910 hT10 own10 E10 ges k10 ge9 gBK n6L nz2 dS hO dl zz hat hgrow hown9 k89 k69 k9 c9 f9 d1 d2 d3 y0 y1 y2 rc rb be fK u8 own8 z8 hb8 E8
        go_wp2_with fail
        have h10 := H10.out
        have hO := HO.out
        have zz := HZ.out
        have lTw := zz.2
        have hT11 := ((h10.1.set_en 1 (.int .u64 (n % 1000000000))).set_en 2 (.int .i64 (n / 1000000000))).set_en 3 (.pointer none)
        rw [if_neg (by decide), if_neg (by decide), if_neg (by decide)] at hT11
        have k11 : Keep [BK] w10 (((w10.setCell ⟨BK, 1, none⟩ (.int .u64 (n % 1000000000))).setCell ⟨BK, 2, none⟩ (.int .i64 (n / 1000000000))).setCell ⟨BK, 3, none⟩ (.pointer none)) := ((Keep.set _ _ _ (by simp)).trans (Keep.set _ _ _ (by simp))).trans (Keep.set _ _ _ (by simp))
        have r11 : roomAt (((w10.setCell ⟨BK, 1, none⟩ (.int .u64 (n % 1000000000))).setCell ⟨BK, 2, none⟩ (.int .i64 (n / 1000000000))).setCell ⟨BK, 3, none⟩ (.pointer none)) (w.heap.size + 1 + 1) 24 := by rw [roomAt_set, roomAt_set, roomAt_set]; exact r10
        obtain ⟨w11, h11⟩ : ∃ W : World, W = ((w10.setCell ⟨BK, 1, none⟩ (.int .u64 (n % 1000000000))).setCell ⟨BK, 2, none⟩ (.int .i64 (n / 1000000000))).setCell ⟨BK, 3, none⟩ (.pointer none) := ⟨_, rfl⟩
        rw [← h11] at hT11 k11 r11
        rw [← h11]
        clear h11
        have k12 := Keep.cells w11 (w.heap.size + 1 + 1) 0 zc49.toList
        have lS := h10.1.lS
        have gL : ∀ x, x < w.heap.size → x ∉ [w.heap.size + 1 + 1] := fun x hx => by simp; omega
        have hT12 := hT11.keep k12 (gL T zz.2) (gL BS hBSw) (gL BK hkBK)
        have l49 := ld49_other zc49 zc49_size (w.heap.size + 1 + 1) w11 ⟨T, 20, none⟩ (.int .i32 0) (by show T ≠ _; omega) r11
        have e6 : w.heap.size ≤ w6.heap.size := HO6.out.2
        have e7 : w.heap.size + 1 + 1 + 1 ≤ w6.heap.size := by have := HK6.out.size; omega
        have gT : g ≠ T ∧ g ≠ w.heap.size + 1 + 1 := by
          rcases h10.2.2.2.1.1 with e | e
          · have := hO.2.2 g e; exact ⟨this.1, by omega⟩
          · exact ⟨by omega, hgz⟩
        have k23 : Keep [T] (w11.setCells (w.heap.size + 1 + 1) 0 zc49.toList) ((w11.setCells (w.heap.size + 1 + 1) 0 zc49.toList).setCell ⟨T, 20, none⟩ (.int .i32 0)) := Keep.set _ _ _ (by simp)
        refine leaves_cons (f := 18) (args := #[.pointer (some ⟨T, 20, none⟩)]) (by simp) (by simp [go_sem]) ?_
        refine (unlock_deferred muLib ⟨T, 20, none⟩ .returning _ hT12.mu (hT12.fT 20)).mono ?_
        rintro e u' w'' ⟨rfl, rfl, rfl⟩
        refine ⟨.tuple #[.agg zc49, .bool false], ?_, rfl, ⟨g, cap, w6.heap.size, hT12.set_mu 0, ?_, ?_, e6, h10.2.2.2.1.1, h10.2.2.2.1.2⟩, ?_⟩
        · simp [results, Tryd.results10, go_sem, l49]
        · refine own_keep (own_keep (own_keep h10.2.1 k11 ?_) k12 ?_) k23 ?_
          · intro x hx; cases hx; simpa using h10.2.2.2.2.2.2.1
          · intro x hx; cases hx; simpa using gT.2
          · intro x hx; cases hx; simpa using gT.1
        · refine ((h10.2.2.1.keep k11 ?_).keep k12 ?_).keep k23 ?_
          · simp; omega
          · simp; omega
          · simp; omega
        · refine Keep.trans (Keep.fresh (Keep.trans (Keep.trans ((Keep.ofBelow HB.out).trans (HK6.out.mono ?_)) (h10.2.2.2.2.1.mono ?_)) (k11.mono ?_)) k12 (by omega)) (k23.mono ?_)
          · simp
          · exact fun x hx => List.mem_cons_of_mem _ hx
          · simp
          · simp
      · go_simp
        refine hK.out _ _ (Keep.ofBelow (((Below.refl w6.heap.size w6).alloc (Nat.le_refl _) _).alloc (by simp) _).drew) (fun hH9 => ?_)
        clear hK K
        refine wpAnyH_ready (rs := [4]) (by kernel_rfl) (by simp) ?_
        refine AllReadyH.cons rfl (fun K hK => ?_) AllReadyH.nil
        go_simp
        obtain ⟨w8, h8⟩ : ∃ W : World, W = ((w6.alloc (.cells (env i p z q n) 78)).alloc (.cells #[.pointer (some ⟨w6.heap.size, 0, none⟩)] 76)).drew := ⟨_, rfl⟩
        have hb8 : Below w6.heap.size w6 w8 := by rw [h8]; exact (((Below.refl w6.heap.size w6).alloc (Nat.le_refl _) _).alloc (by simp) _).drew
        have z8 : w8.heap.size = w6.heap.size + 1 + 1 := by rw [h8]; simp
        have u8 : w8.cell? ⟨w6.heap.size + 1, 0, none⟩ = some (.pointer (some ⟨w6.heap.size, 0, none⟩)) := by rw [h8]; simp
        have E8 : Hid (w8.heap[w6.heap.size]? = some (.cells (env i p z q n) 78)) := by
          show w8.heap[w6.heap.size]? = _
          rw [h8]
          show ((w6.heap.push _).push _)[w6.heap.size]? = _
          rw [Array.getElem?_push, if_neg (by simp), Array.getElem?_push, if_pos rfl]
        have own8 : w8.ownsRow B 76 1 (.slice so k c) k xs := own_keep HO6.out.1 (Keep.ofBelow (L := []) hb8) (by simp)
        rw [← h8]
        clear h8
        refine hK.out _ _ (Keep.ofBelow hb8) (fun _ => ?_)
        clear hK K
        refine wpAnyH_ready (rs := [10]) (by kernel_rfl) (by simp) ?_
        refine AllReadyH.cons rfl (fun K hK => ?_) AllReadyH.nil
        refine app58 w8 (by rfl) _ _ (by rfl) B (.slice so k c) k xs (by rfl) own8 (w6.heap.size + 1) 1 (.pointer (some ⟨w6.heap.size, 0, none⟩)) (by rfl) u8 rfl (by omega) (by have := HO6.out.2; omega) ?_
        intro g cap w9 hown9 hgrow hat hlt
        simp only [List.getElem_toArray, List.getElem_cons_succ, List.getElem_cons_zero, Act.put, List.setIfInBounds_toArray, List.set_cons_zero, List.set_cons_succ]
        have k89 : Keep L w8 w9 := ⟨hgrow.os, hgrow.tape, hgrow.output, hgrow.size, fun kk hk1 hn => hgrow.block kk hk1 (fun e => hn (HO.out.2.1 kk e.symm))⟩
        have k69 : Keep L w6 w9 := (Keep.ofBelow hb8).trans k89
        have k9 : Keep (BK :: L) w6 w9 := k69.mono (fun x hx => List.mem_cons_of_mem _ hx)
        refine hK.out _ _ k9 (fun _ => ?_)
        clear hK K
        have c9 : w9.cell? ⟨BK, 0, none⟩ = some (.slice so k c) := by rw [k69.cell BK 0 lK6 HDL.out.2.1]; exact rb
        have f9 : ∀ j, w9.frozen? ⟨BK, j, none⟩ = false := fun j => by rw [k69.frozen BK j lK6 HDL.out.2.1]; exact fK j
        obtain ⟨x1, hx1⟩ := HT6.out.k1
        obtain ⟨x2, hx2⟩ := HT6.out.k2
        obtain ⟨x3, hx3⟩ := HT6.out.k3
        have d1 : w9.cell? ⟨BK, 1, none⟩ = some x1 := by rw [k69.cell BK 1 lK6 HDL.out.2.1]; exact hx1
        have d2 : w9.cell? ⟨BK, 2, none⟩ = some x2 := by rw [k69.cell BK 2 lK6 HDL.out.2.1]; exact hx2
        have d3 : w9.cell? ⟨BK, 3, none⟩ = some x3 := by rw [k69.cell BK 3 lK6 HDL.out.2.1]; exact hx3
        clear hx1 hx2 hx3
        refine wpAnyH_take (i := 11) (v := ?v11_25) rfl (by kernel_rfl) (by kernel_rfl) (by kernel_rfl) (fun _ _ _ h => h) (Or.inl ⟨by rfl, ?y11_25⟩) (by assumption) ?r11_25
        case y11_25 => intro w hSw; go_simp; try with_reducible rfl
        simp only [List.getElem_toArray, List.getElem_cons_succ, List.getElem_cons_zero, Act.put, List.setIfInBounds_toArray, List.set_cons_zero, List.set_cons_succ]
        refine wpAnyH_take (i := 12) (v := ?v12_26) rfl (by kernel_rfl) (by kernel_rfl) (by kernel_rfl) (fun _ _ _ h => h) (Or.inl ⟨by rfl, ?y12_26⟩) (by assumption) ?r12_26
        case y12_26 => intro w hSw; go_simp; try with_reducible rfl
        simp only [List.getElem_toArray, List.getElem_cons_succ, List.getElem_cons_zero, Act.put, List.setIfInBounds_toArray, List.set_cons_zero, List.set_cons_succ]
        refine wpAnyH_ready (rs := [13]) (by kernel_rfl) (by simp) ?_
        refine AllReadyH.cons rfl (fun K hK => ?_) AllReadyH.nil
        go_simp
        refine hK.out _ _ (k9.trans (Keep.set _ _ _ (by simp))) (fun _ => ?_)
        clear hK K
        refine wpAnyH_done (by kernel_rfl) ?_ _
        refine NoPanic.normal ?_
        have zz := HZ.out
        have dl := HDL.out
        have hO := HO.out
        have dS : BS ∉ L := fun h => (hO.2.2 BS h).2.1 rfl
        have hT10 := (HT6.out.keep k69 dl.1 dS dl.2.1).set_en 0 (.slice (some ⟨g, 0, none⟩) (k + 1) cap)
        rw [if_pos rfl] at hT10
        have k910 := Keep.set (L := [BK]) w9 ⟨BK, 0, none⟩ (.slice (some ⟨g, 0, none⟩) (k + 1) cap) (by simp)
        obtain ⟨w10, h10⟩ : ∃ W : World, W = w9.setCell ⟨BK, 0, none⟩ (.slice (some ⟨g, 0, none⟩) (k + 1) cap) := ⟨_, rfl⟩
        rw [← h10] at hT10 k910
        have k10 : Keep (BK :: L) w6 w10 := k9.trans (k910.mono (by simp))
        have ge9 : w6.heap.size < w9.heap.size := by have := k89.size; omega
        have gBK : g ≠ BK := by
          rcases hat with e | e
          · exact fun e' => dl.2.1 (e' ▸ hO.2.1 _ e)
          · have := hkBK; have := HO6.out.2; omega
        have own10 : w10.ownsRow B 76 1 (.slice (some ⟨g, 0, none⟩) (k + 1) cap) (k + 1) (xs ++ [.pointer (some ⟨w6.heap.size, 0, none⟩)]) := own_keep hown9 k910 (fun x hx => by cases hx; simpa using gBK)
        have n6L : w6.heap.size ∉ L := fun h => by have := (hO.2.2 _ h).2.2.2; have := HO6.out.2; omega
        have E10 : Ent w10 w6.heap.size i (lo4 p) z q n 0 0 0 := (Ent.new (by rw [k89.block w6.heap.size (by omega) n6L]; exact E8.out) hn0 hn1).keep k910 (by simp; have := hkBK; have := HO6.out.2; omega)
        have ges : (g ∈ L ∨ w.heap.size ≤ g) ∧ g ≠ w6.heap.size := by
          rcases hat with e | e
          · have := hO.2.1 _ e
            exact ⟨.inl this, fun e' => n6L (e' ▸ this)⟩
          · have := HO6.out.2
            exact ⟨.inr (by omega), by omega⟩
        have hgz : g ≠ w.heap.size + 1 + 1 := by
          rcases hat with e | e
          · have := (hO.2.2 g (hO.2.1 _ e)).2.2.2; omega
          · have := HK6.out.size; omega
        have nz2 : w.heap.size + 1 + 1 ∉ BK :: L := by
          simp only [List.mem_cons, not_or]
          exact ⟨by have := hkBK; omega, fun h => by have := (hO.2.2 _ h).2.2.2; omega⟩
        have r10 : roomAt w10 (w.heap.size + 1 + 1) 24 := k10.room _ 24 (by have := HK6.out.size; omega) nz2 (HK6.out.room _ 24 (by omega) (by simp; omega) HR0.out)
        have yy0 := y0 w10 k10
        have yy1 := y1 w10 k10
        have yy2 := y2 w10 k10
        obtain ⟨e1, d1'⟩ := hT10.k1
        obtain ⟨e2, d2'⟩ := hT10.k2
        obtain ⟨e3, d3'⟩ := hT10.k3
        have f10 := hT10.fK
        have dn5 : ¬ BK = w.heap.size + 1 := by have := hkBK; omega
        have dn6 : ¬ w.heap.size + 1 = BK := by have := hkBK; omega
        have dn7 : ¬ BK = w.heap.size + 1 + 1 := by have := hkBK; omega
        have dn8 : ¬ w.heap.size + 1 + 1 = BK := by have := hkBK; omega
        have bz := build49_zero
        have st := st49 zc49 zc49_size zc49_one (w.heap.size + 1 + 1)
        have H10 : Hid (Tab w10 T BS BK s 1 la (.slice (some ⟨g, 0, none⟩) (k + 1) cap) ∧ w10.ownsRow B 76 1 (.slice (some ⟨g, 0, none⟩) (k + 1) cap) (k + 1) (xs ++ [.pointer (some ⟨w6.heap.size, 0, none⟩)]) ∧ Ent w10 w6.heap.size i (lo4 p) z q n 0 0 0 ∧ ((g ∈ L ∨ w.heap.size ≤ g) ∧ g ≠ w6.heap.size) ∧ Keep (BK :: L) w6 w10 ∧ w6.heap.size < w9.heap.size ∧ g ≠ BK ∧ g < w9.heap.size ∧ w9.heap.size ≤ w10.heap.size) := ⟨hT10, own10, E10, ges, k10, ge9, gBK, hlt, k910.size⟩
        rw [← h10]
        clear h10 k910 hT10 own10 E10 ges k10 ge9 gBK n6L nz2 dS hO dl zz hat hgrow hown9 k89 k69 k9 c9 f9 d1 d2 d3 y0 y1 y2 rc rb be fK u8 own8 z8 hb8 E8
        go_wp2_with fail
        have h10 := H10.out
        have hO := HO.out
        have zz := HZ.out
        have lTw := zz.2
        have hT11 := ((h10.1.set_en 1 (.int .u64 (n % 1000000000))).set_en 2 (.int .i64 (n / 1000000000))).set_en 3 (.pointer none)
        rw [if_neg (by decide), if_neg (by decide), if_neg (by decide)] at hT11
        have k11 : Keep [BK] w10 (((w10.setCell ⟨BK, 1, none⟩ (.int .u64 (n % 1000000000))).setCell ⟨BK, 2, none⟩ (.int .i64 (n / 1000000000))).setCell ⟨BK, 3, none⟩ (.pointer none)) := ((Keep.set _ _ _ (by simp)).trans (Keep.set _ _ _ (by simp))).trans (Keep.set _ _ _ (by simp))
        have r11 : roomAt (((w10.setCell ⟨BK, 1, none⟩ (.int .u64 (n % 1000000000))).setCell ⟨BK, 2, none⟩ (.int .i64 (n / 1000000000))).setCell ⟨BK, 3, none⟩ (.pointer none)) (w.heap.size + 1 + 1) 24 := by rw [roomAt_set, roomAt_set, roomAt_set]; exact r10
        obtain ⟨w11, h11⟩ : ∃ W : World, W = ((w10.setCell ⟨BK, 1, none⟩ (.int .u64 (n % 1000000000))).setCell ⟨BK, 2, none⟩ (.int .i64 (n / 1000000000))).setCell ⟨BK, 3, none⟩ (.pointer none) := ⟨_, rfl⟩
        rw [← h11] at hT11 k11 r11
        rw [← h11]
        clear h11
        have k12 := Keep.cells w11 (w.heap.size + 1 + 1) 0 zc49.toList
        have lS := h10.1.lS
        have gL : ∀ x, x < w.heap.size → x ∉ [w.heap.size + 1 + 1] := fun x hx => by simp; omega
        have hT12 := hT11.keep k12 (gL T zz.2) (gL BS hBSw) (gL BK hkBK)
        have l49 := ld49_other zc49 zc49_size (w.heap.size + 1 + 1) w11 ⟨T, 20, none⟩ (.int .i32 0) (by show T ≠ _; omega) r11
        have e6 : w.heap.size ≤ w6.heap.size := HO6.out.2
        have e7 : w.heap.size + 1 + 1 + 1 ≤ w6.heap.size := by have := HK6.out.size; omega
        have gT : g ≠ T ∧ g ≠ w.heap.size + 1 + 1 := by
          rcases h10.2.2.2.1.1 with e | e
          · have := hO.2.2 g e; exact ⟨this.1, by omega⟩
          · exact ⟨by omega, hgz⟩
        have k23 : Keep [T] (w11.setCells (w.heap.size + 1 + 1) 0 zc49.toList) ((w11.setCells (w.heap.size + 1 + 1) 0 zc49.toList).setCell ⟨T, 20, none⟩ (.int .i32 0)) := Keep.set _ _ _ (by simp)
        refine leaves_cons (f := 18) (args := #[.pointer (some ⟨T, 20, none⟩)]) (by simp) (by simp [go_sem]) ?_
        refine (unlock_deferred muLib ⟨T, 20, none⟩ .returning _ hT12.mu (hT12.fT 20)).mono ?_
        rintro e u' w'' ⟨rfl, rfl, rfl⟩
        refine ⟨.tuple #[.agg zc49, .bool false], ?_, rfl, ⟨g, cap, w6.heap.size, hT12.set_mu 0, ?_, ?_, e6, h10.2.2.2.1.1, h10.2.2.2.1.2⟩, ?_⟩
        · simp [results, Tryd.results10, go_sem, l49]
        · refine own_keep (own_keep (own_keep h10.2.1 k11 ?_) k12 ?_) k23 ?_
          · intro x hx; cases hx; simpa using h10.2.2.2.2.2.2.1
          · intro x hx; cases hx; simpa using gT.2
          · intro x hx; cases hx; simpa using gT.1
        · refine ((h10.2.2.1.keep k11 ?_).keep k12 ?_).keep k23 ?_
          · simp; omega
          · simp; omega
          · simp; omega
        · refine Keep.trans (Keep.fresh (Keep.trans (Keep.trans ((Keep.ofBelow HB.out).trans (HK6.out.mono ?_)) (h10.2.2.2.2.1.mono ?_)) (k11.mono ?_)) k12 (by omega)) (k23.mono ?_)
          · simp
          · exact fun x hx => List.mem_cons_of_mem _ hx
          · simp
          · simp

end Go.Proofs.Qxb6615986aDoor
