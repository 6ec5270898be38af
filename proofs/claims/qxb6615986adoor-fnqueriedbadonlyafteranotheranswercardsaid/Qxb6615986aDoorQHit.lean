import Derived.Test.Qxb6615986aDoorQSelf
set_option linter.unusedSimpArgs false
namespace Go.Proofs.Qxb6615986aDoor
open Go.RowKit Go.MuLone
attribute [-go_sem] loadVar storeVar Instr.build
attribute [-simp] Tryd.zeroValue49 Tryd.zeroValue33
attribute [local go_sem] lvs svs bds idAt_drew idAt_drewN idAt_alloc hasId_self hasId_app idAt_setCell idAt_setCells cell_setCells frozen_setCells roomAt_drew roomAt_alloc hasRoom_cells idv_size app20 app21 app22 app23

theorem Keep.cell {L : List Nat} {w w' : World} (h : Keep L w w') (b o : Nat) (hb : b < w.heap.size) (hn : b ∉ L) : w'.cell? ⟨b, o, none⟩ = w.cell? ⟨b, o, none⟩ := World.cell?_of_block (w := w) (h.block b hb hn)
theorem Keep.frozen {L : List Nat} {w w' : World} (h : Keep L w w') (b o : Nat) (hb : b < w.heap.size) (hn : b ∉ L) : w'.frozen? ⟨b, o, none⟩ = w.frozen? ⟨b, o, none⟩ := World.frozen?_of_block (w := w) (h.block b hb hn)
theorem Keep.id {L : List Nat} {w w' : World} (h : Keep L w w') (b : Nat) (s : ID20) (hb : b < w.heap.size) (hn : b ∉ L) : idAt w' b s = idAt w b s := idAt_of fun j _ => h.cell b j hb hn

/-- a contact's box and a time's box -/
structure Box (W : World) (c t : Nat) (i : ID20) (L : Int) (z : Addr) (q n : Int) : Prop where
  id : idAt W c i
  a20 : W.cell? ⟨c, 20, none⟩ = some (.int .u64 0)
  a21 : W.cell? ⟨c, 21, none⟩ = some (.int .u64 L)
  a22 : W.cell? ⟨c, 22, none⟩ = some (.pointer (some z))
  a23 : W.cell? ⟨c, 23, none⟩ = some (.int .u16 q)
  t0 : W.cell? ⟨t, 0, none⟩ = some (.int .u64 (n % 1000000000))
  t1 : W.cell? ⟨t, 1, none⟩ = some (.int .i64 (n / 1000000000))
  t2 : W.cell? ⟨t, 2, none⟩ = some (.pointer none)
  lc : c < W.heap.size
  lt : t < W.heap.size
theorem Box.keep {W W' : World} {c t : Nat} {i : ID20} {L : Int} {z : Addr} {q n : Int} (h : Box W c t i L z q n) {l : List Nat} (k : Keep l W W') (hc : c ∉ l) (ht : t ∉ l) : Box W' c t i L z q n := by
  have z := k.size
  constructor
  · rw [k.id c i h.lc hc]; exact h.id
  · rw [k.cell c _ h.lc hc]; exact h.a20
  · rw [k.cell c _ h.lc hc]; exact h.a21
  · rw [k.cell c _ h.lc hc]; exact h.a22
  · rw [k.cell c _ h.lc hc]; exact h.a23
  · rw [k.cell t _ h.lt ht]; exact h.t0
  · rw [k.cell t _ h.lt ht]; exact h.t1
  · rw [k.cell t _ h.lt ht]; exact h.t2
  · exact Nat.lt_of_lt_of_le h.lc z
  · exact Nat.lt_of_lt_of_le h.lt z

/-- what queried answers -/
def QuP (p : Prop) (e : Ending) : Prop := ∃ r : Bool, e = .returned (.bool r) ∧ (r = true ↔ p)

set_option maxRecDepth 8000 in
set_option maxHeartbeats 8000000 in
theorem queried_hit (T BS BK ES nn c E : Nat) (s i A : ID20) (p : Nat → Int) (la q n L q' lr lq f lf : Int) (z : Addr) (w : World) (ht : Tab w T BS BK s 0 la (.slice (some ⟨ES, 0, none⟩) nn c)) (he : Ent w E A L z q' lr lq f lf)
    (hes : w.cell? ⟨ES, 0, none⟩ = some (.pointer (some ⟨E, 0, none⟩))) (lES : ES < w.heap.size) (dET : E ≠ T) (dES : E ≠ BS) (dEK : E ≠ BK) (dTE : ES ≠ T) (dEE : ES ≠ E) (hnn : 0 < nn)
    (hq : (i.1 == s.1) = false) (hi : (A.1 == i.1) = true) (hn0 : 0 ≤ n) (hn1 : n ≤ 4611686018427387904) :
    Calls Tryd.prog 15 #[.pointer (some ⟨T, 0, none⟩), .agg (ctv i p z q), tm n] w fun e w' => QuP (3 ≤ f ∧ lf < la) e ∧ (∃ lq', Tab w' T BS BK s 0 la (.slice (some ⟨ES, 0, none⟩) nn c) ∧ Ent w' E A L z q' lr lq' f lf) ∧ Keep [T, E] w w' := by
  obtain ⟨W0, hW0⟩ : ∃ W0, W0 = ((w.alloc (.cells #[.pointer (some ⟨T, 0, none⟩)] 27)).alloc (.cells (ctv i p z q) 49)).alloc (.cells #[.int .u64 (n % 1000000000), .int .i64 (n / 1000000000), .pointer none] 37) := ⟨_, rfl⟩
  have b0 : Below w.heap.size w W0 := by rw [hW0]; exact (((Below.refl _ _).alloc (Nat.le_refl _) _).alloc (by simp) _).alloc (by simp; omega) _
  have z0 : W0.heap.size = w.heap.size + 1 + 1 + 1 := by rw [hW0]; simp
  have hT0 := ht.below b0 (Nat.le_refl _)
  have hE0 := he.below b0 (Nat.le_refl _)
  have hes0 : W0.cell? ⟨ES, 0, none⟩ = some (.pointer (some ⟨E, 0, none⟩)) := by rw [b0.cell (p := ⟨ES, 0, none⟩) lES]; exact hes
  have hX0 : Box W0 (w.heap.size + 1) (w.heap.size + 1 + 1) i (lo4 p) z q n := by
    rw [hW0, ctv]
    constructor <;> simp [go_sem]
  have l1 := ld33 T s
  have l2 := ld33 (w.heap.size + 1) i
  have i1 := hT0.id
  have i2 := hX0.id
  have x0 : W0.cell? ⟨w.heap.size, 0, none⟩ = some (.pointer (some ⟨T, 0, none⟩)) := by rw [hW0]; simp [go_sem]
  have e1 := eq33 i s
  rw [hq] at e1
  have lT := ht.lT
  have lE := he.lt
  have HT0 : Hid (Tab W0 T BS BK s 0 la (.slice (some ⟨ES, 0, none⟩) nn c)) := hT0
  have HE0 : Hid (Ent W0 E A L z q' lr lq f lf) := hE0
  have HX0 : Hid (Box W0 (w.heap.size + 1) (w.heap.size + 1 + 1) i (lo4 p) z q n) := hX0
  have HB : Hid (Below w.heap.size w W0) := b0
  have HD : Hid (E ≠ T ∧ E ≠ BS ∧ E ≠ BK ∧ ES ≠ T ∧ ES ≠ E ∧ ES < w.heap.size ∧ T < w.heap.size ∧ E < w.heap.size) := ⟨dET, dES, dEK, dTE, dEE, lES, lT, lE⟩
  have HZ : Hid (W0.heap.size = w.heap.size + 1 + 1 + 1) := z0
  have HES : Hid (W0.cell? ⟨ES, 0, none⟩ = some (.pointer (some ⟨E, 0, none⟩))) := hes0
  have HX : Hid (W0.cell? ⟨w.heap.size, 0, none⟩ = some (.pointer (some ⟨T, 0, none⟩))) := x0
  clear ht hT0 b0 he hE0 hX0 hes hes0 z0 lT lE lES dET dES dEK dTE dEE
  unfold tm
  go_enter_defers Tryd.func15, Tryd.ntmps15
  go_wp2_with fail
  rw [← hW0]
  clear hW0
  go_quiet (fail)
  obtain ⟨wD, hD⟩ : ∃ W : World, W = W0.drewN nq := ⟨_, rfl⟩
  have hbD : Below W0.heap.size W0 wD := by rw [hD]; exact below_drewN (Below.refl _ _) _
  rw [← hD]
  clear hD i1 i2 x0
  have hTD := HT0.out.below hbD (Nat.le_refl _)
  have hlk := lock_free muLib ⟨T, 20, none⟩ wD hTD.mu (hTD.fT 20)
  have d := HD.out
  have zz := HZ.out
  have hT1' := hTD.set_mu 1
  have kD : Keep [T, E] W0 (wD.setCell ⟨T, 20, none⟩ (.int .i32 1)) := (Keep.ofBelow hbD).trans (Keep.set _ _ _ (by simp))
  have hE1' := (HE0.out.below hbD (Nat.le_refl _)).set_other ⟨T, 20, none⟩ (.int .i32 1) (fun e => d.1 e.symm)
  obtain ⟨w1, hw1⟩ : ∃ w1, w1 = wD.setCell ⟨T, 20, none⟩ (.int .i32 1) := ⟨_, rfl⟩
  rw [← hw1] at hT1' kD hE1'
  have xD : wD.cell? ⟨w.heap.size, 0, none⟩ = some (.pointer (some ⟨T, 0, none⟩)) := by rw [hbD.cell (p := ⟨w.heap.size, 0, none⟩) (by show w.heap.size < _; omega)]; exact HX.out
  have x1 : w1.cell? ⟨w.heap.size, 0, none⟩ = some (.pointer (some ⟨T, 0, none⟩)) := by rw [kD.cell w.heap.size 0 (by omega) (by simp; omega)]; exact HX.out
  have hX1 := HX0.out.keep kD (by simp; omega) (by simp; omega)
  have es1 : w1.cell? ⟨ES, 0, none⟩ = some (.pointer (some ⟨E, 0, none⟩)) := by rw [kD.cell ES 0 (by omega) (by simp; omega)]; exact HES.out
  have i2 := hX1.id
  have hfind := find_hit T BS BK ES nn c E s A i 1 la w1 hT1' hnn es1 hE1'.id (by have := kD.size; omega) hE1'.lt hi
  have HT1 : Hid (Tab w1 T BS BK s 1 la (.slice (some ⟨ES, 0, none⟩) nn c)) := hT1'
  have HE1 : Hid (Ent w1 E A L z q' lr lq f lf) := hE1'
  have HX1 : Hid (Box w1 (w.heap.size + 1) (w.heap.size + 1 + 1) i (lo4 p) z q n) := hX1
  have HK1 : Hid (Keep [T, E] W0 w1) := kD
  have HW1 : Hid (w1 = wD.setCell ⟨T, 20, none⟩ (.int .i32 1)) := hw1
  clear hT1' hE1' hX1 kD hTD hbD hw1 d zz HX0 HT0 HE0
  go_wp2_with fail
  refine hlk.mono ?_
  rintro e w' ⟨rfl, hw⟩
  rw [← HW1.out] at hw
  subst w'
  clear hlk HW1 xD
  go_wp2_with fail
  refine hfind.mono ?_
  rintro e w2 ⟨rfl, hb2⟩
  have hT2 := HT1.out.below hb2 (Nat.le_refl _)
  have hE2 := HE1.out.below hb2 (Nat.le_refl _)
  have hX2 := HX1.out.keep (l := []) (Keep.ofBelow hb2) (by simp) (by simp)
  have k2 : Keep [T, E] W0 w2 := HK1.out.trans (Keep.ofBelow hb2)
  have d := HD.out
  have zz := HZ.out
  have x2 : w2.cell? ⟨w.heap.size, 0, none⟩ = some (.pointer (some ⟨T, 0, none⟩)) := by rw [k2.cell w.heap.size 0 (by omega) (by simp; omega)]; exact HX.out
  have es2 : w2.cell? ⟨ES, 0, none⟩ = some (.pointer (some ⟨E, 0, none⟩)) := by rw [k2.cell ES 0 (by omega) (by simp; omega)]; exact HES.out
  have en2 := hT2.en
  have f20 := hE2.c20
  have f21 := hE2.c21
  have f22 := hE2.c22
  have f23 := hE2.c23
  have f27 := hE2.c27
  have f28 := hE2.c28
  have f29 := hE2.c29
  have ff := hE2.fz
  have g20 := hX2.a20
  have g21 := hX2.a21
  have g22 := hX2.a22
  have g23 := hX2.a23
  have y0 := hX2.t0
  have y1 := hX2.t1
  have y2 := hX2.t2
  have dn1 : ¬ w.heap.size + 1 + 1 = E := by omega
  have dn2 : ¬ E = w.heap.size + 1 + 1 := by omega
  have dn3 : ¬ w.heap.size = E := by omega
  have dn4 : ¬ E = w.heap.size := by omega
  have q47 := eq47 L (lo4 p) q' q z
  have hnn1 : 0 < (nn : Int) := by omega
  have HT2 : Hid (Tab w2 T BS BK s 1 la (.slice (some ⟨ES, 0, none⟩) nn c)) := hT2
  have HE2 : Hid (Ent w2 E A L z q' lr lq f lf) := hE2
  have HK2 : Hid (Keep [T, E] W0 w2) := k2
  clear hT2 hE2 hX2 k2 HT1 HE1 HX1 HK1 hb2 hfind x1 es1 i2 l1 l2 e1 d zz
  -- what follows the store, or its lack, once for both
  have fin : ∀ (w4 : World) (lq' : Int), Tab w4 T BS BK s 1 la (.slice (some ⟨ES, 0, none⟩) nn c) → Ent w4 E A L z q' lr lq' f lf → Keep [T, E] W0 w4 → ∀ (st : Int) (w5 : World), (st = 2 ↔ 3 ≤ f ∧ lf < la) → Below w4.heap.size w4 w5 →
      QuP (3 ≤ f ∧ lf < la) (.returned (.bool (st == 2))) ∧ (∃ lq', Tab (w5.setCell ⟨T, 20, none⟩ (.int .i32 0)) T BS BK s 0 la (.slice (some ⟨ES, 0, none⟩) nn c) ∧ Ent (w5.setCell ⟨T, 20, none⟩ (.int .i32 0)) E A L z q' lr lq' f lf) ∧ Keep [T, E] w (w5.setCell ⟨T, 20, none⟩ (.int .i32 0)) := by
    intro w4 lq' h1 h2 h3 st w5 hst hb
    refine ⟨⟨_, rfl, by simpa using hst⟩, ⟨lq', (h1.below hb (Nat.le_refl _)).set_mu 0, (h2.below hb (Nat.le_refl _)).set_other _ _ (fun e => HD.out.1 e.symm)⟩, ?_⟩
    exact (((Keep.ofBelow HB.out).trans h3).trans (Keep.ofBelow hb)).trans (Keep.set _ _ _ (by simp))
  have FIN : Hid (∀ (w4 : World) (lq' : Int), Tab w4 T BS BK s 1 la (.slice (some ⟨ES, 0, none⟩) nn c) → Ent w4 E A L z q' lr lq' f lf → Keep [T, E] W0 w4 → ∀ (st : Int) (w5 : World), (st = 2 ↔ 3 ≤ f ∧ lf < la) → Below w4.heap.size w4 w5 →
      QuP (3 ≤ f ∧ lf < la) (.returned (.bool (st == 2))) ∧ (∃ lq', Tab (w5.setCell ⟨T, 20, none⟩ (.int .i32 0)) T BS BK s 0 la (.slice (some ⟨ES, 0, none⟩) nn c) ∧ Ent (w5.setCell ⟨T, 20, none⟩ (.int .i32 0)) E A L z q' lr lq' f lf) ∧ Keep [T, E] w (w5.setCell ⟨T, 20, none⟩ (.int .i32 0))) := fin
  clear fin
  by_cases hadr : (L == lo4 p && q' == q) = true
  · rw [hadr] at q47
    clear hadr
    go_wp2_with fail
    go_quiet (fail)
    have hbD2 : Below w2.heap.size w2 (w2.drewN nq) := below_drewN (Below.refl _ _) _
    have d := HD.out
    have hT4 := (((HT2.out.below hbD2 (Nat.le_refl _)).set_other ⟨E, 27, none⟩ (.int .u64 (n % 1000000000)) d.1 d.2.1 d.2.2.1).set_other ⟨E, 28, none⟩ (.int .i64 (n / 1000000000)) d.1 d.2.1 d.2.2.1).set_other ⟨E, 29, none⟩ (.pointer none) d.1 d.2.1 d.2.2.1
    have hE4 := (HE2.out.below hbD2 (Nat.le_refl _)).set_query n ⟨hn0, hn1⟩
    have hK4 := (((HK2.out.trans (Keep.ofBelow hbD2)).trans (Keep.set (L := [T, E]) _ ⟨E, 27, none⟩ (.int .u64 (n % 1000000000)) (by simp))).trans (Keep.set _ ⟨E, 28, none⟩ (.int .i64 (n / 1000000000)) (by simp))).trans (Keep.set _ ⟨E, 29, none⟩ (.pointer none) (by simp))
    have hst := status_any T BS BK E s A 1 la L q' lr n f lf n z _ _ hT4 hE4 hn0 hn1
    have F4 := FIN.out _ _ hT4 hE4 hK4
    have hmu := hT4
    have HF : Hid (∀ (st : Int) (w5 : World), (st = 2 ↔ 3 ≤ f ∧ lf < la) → Below ((((w2.drewN nq).setCell ⟨E, 27, none⟩ (.int .u64 (n % 1000000000))).setCell ⟨E, 28, none⟩ (.int .i64 (n / 1000000000))).setCell ⟨E, 29, none⟩ (.pointer none)).heap.size ((((w2.drewN nq).setCell ⟨E, 27, none⟩ (.int .u64 (n % 1000000000))).setCell ⟨E, 28, none⟩ (.int .i64 (n / 1000000000))).setCell ⟨E, 29, none⟩ (.pointer none)) w5 →
      QuP (3 ≤ f ∧ lf < la) (.returned (.bool (st == 2))) ∧ (∃ lq', Tab (w5.setCell ⟨T, 20, none⟩ (.int .i32 0)) T BS BK s 0 la (.slice (some ⟨ES, 0, none⟩) nn c) ∧ Ent (w5.setCell ⟨T, 20, none⟩ (.int .i32 0)) E A L z q' lr lq' f lf) ∧ Keep [T, E] w (w5.setCell ⟨T, 20, none⟩ (.int .i32 0))) := F4
    have HM : Hid (Tab ((((w2.drewN nq).setCell ⟨E, 27, none⟩ (.int .u64 (n % 1000000000))).setCell ⟨E, 28, none⟩ (.int .i64 (n / 1000000000))).setCell ⟨E, 29, none⟩ (.pointer none)) T BS BK s 1 la (.slice (some ⟨ES, 0, none⟩) nn c)) := hT4
    clear hbD2 d hT4 hE4 hK4 F4 hmu
    go_wp2_with fail
    refine hst.mono ?_
    rintro e w5 ⟨⟨st, rfl, hs⟩, hb5⟩
    have hT5 := HM.out.below hb5 (Nat.le_refl _)
    have hF5 := HF.out st w5 hs hb5
    clear hst HM HF hs hb5
    go_wp2_with fail
    refine leaves_cons (f := 18) (args := #[.pointer (some ⟨T, 20, none⟩)]) (by simp) (by simp [go_sem]) ?_
    refine (unlock_deferred muLib ⟨T, 20, none⟩ .returning _ hT5.mu (hT5.fT 20)).mono ?_
    rintro e u' w'' ⟨rfl, rfl, rfl⟩
    refine ⟨.bool (st == 2), ?_, hF5⟩
    exact results_tmp (fn := Tryd.f15) (t := 6) rfl _ _ _
  · have hadr' : (L == lo4 p && q' == q) = false := by simpa using hadr
    rw [hadr'] at q47
    clear hadr hadr'
    go_wp2_with fail
    go_quiet (fail)
    have hbD2 : Below w2.heap.size w2 (w2.drewN nq) := below_drewN (Below.refl _ _) _
    have hT4 := HT2.out.below hbD2 (Nat.le_refl _)
    have hE4 := HE2.out.below hbD2 (Nat.le_refl _)
    have hK4 := HK2.out.trans (Keep.ofBelow hbD2)
    have hst := status_any T BS BK E s A 1 la L q' lr lq f lf n z _ _ hT4 hE4 hn0 hn1
    have HF : Hid (∀ (st : Int) (w5 : World), (st = 2 ↔ 3 ≤ f ∧ lf < la) → Below (w2.drewN nq).heap.size (w2.drewN nq) w5 →
      QuP (3 ≤ f ∧ lf < la) (.returned (.bool (st == 2))) ∧ (∃ lq', Tab (w5.setCell ⟨T, 20, none⟩ (.int .i32 0)) T BS BK s 0 la (.slice (some ⟨ES, 0, none⟩) nn c) ∧ Ent (w5.setCell ⟨T, 20, none⟩ (.int .i32 0)) E A L z q' lr lq' f lf) ∧ Keep [T, E] w (w5.setCell ⟨T, 20, none⟩ (.int .i32 0))) := FIN.out _ _ hT4 hE4 hK4
    have HM : Hid (Tab (w2.drewN nq) T BS BK s 1 la (.slice (some ⟨ES, 0, none⟩) nn c)) := hT4
    clear hbD2 hT4 hE4 hK4
    go_wp2_with fail
    refine hst.mono ?_
    rintro e w5 ⟨⟨st, rfl, hs⟩, hb5⟩
    have hT5 := HM.out.below hb5 (Nat.le_refl _)
    have hF5 := HF.out st w5 hs hb5
    clear hst HM HF hs hb5
    go_wp2_with fail
    refine leaves_cons (f := 18) (args := #[.pointer (some ⟨T, 20, none⟩)]) (by simp) (by simp [go_sem]) ?_
    refine (unlock_deferred muLib ⟨T, 20, none⟩ .returning _ hT5.mu (hT5.fT 20)).mono ?_
    rintro e u' w'' ⟨rfl, rfl, rfl⟩
    refine ⟨.bool (st == 2), ?_, hF5⟩
    exact results_tmp (fn := Tryd.f15) (t := 6) rfl _ _ _
end Go.Proofs.Qxb6615986aDoor
