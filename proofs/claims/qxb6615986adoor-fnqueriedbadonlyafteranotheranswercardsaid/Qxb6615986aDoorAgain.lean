import Derived.Test.Qxb6615986aDoorAddA
set_option linter.unusedSimpArgs false
namespace Go.Proofs.Qxb6615986aDoor
open Go.RowKit Go.MuLone
attribute [-go_sem] loadVar storeVar Instr.build
attribute [-simp] Tryd.zeroValue49 Tryd.zeroValue33
attribute [local go_sem] lvs svs bds idAt_drew idAt_drewN idAt_alloc hasId_self hasId_app idAt_setCell idAt_setCells cell_setCells frozen_setCells roomAt_drew roomAt_drewN roomAt_alloc roomAt_set hasRoom_cells idv_size app20 app21 app22 app23

theorem hidOf {p : Prop} (h : p) : Hid p := h
/-- what an answer of the node that is there leaves -/
def AgainP (T BS BK E : Nat) (s A : ID20) (la lq lf : Int) (z : Addr) (sl : Value) (w w' : World) : Prop :=
  (∃ L q lr f, Tab w' T BS BK s 0 la sl ∧ Ent w' E A L z q lr lq f lf ∧ ¬ (3 ≤ f ∧ lf < la)) ∧ Keep [T, BK, E] w w'
theorem Ent.set_again {w : World} {E : Nat} {A : ID20} {L : Int} {z : Addr} {q lr lq f lf : Int} (h : Ent w E A L z q lr lq f lf) (L' q' n : Int) (hn : 0 ≤ n ∧ n ≤ 4611686018427387904) :
    Ent (((((((((w.setCell ⟨E, 20, none⟩ (.int .u64 0)).setCell ⟨E, 21, none⟩ (.int .u64 L')).setCell ⟨E, 22, none⟩ (.pointer (some z))).setCell ⟨E, 23, none⟩ (.int .u16 q')).setCell ⟨E, 24, none⟩ (.int .u64 (n % 1000000000))).setCell ⟨E, 25, none⟩ (.int .i64 (n / 1000000000))).setCell ⟨E, 26, none⟩ (.pointer none)).setCell ⟨E, 30, none⟩ (.int .i64 0)).setCell ⟨E, 34, none⟩ (.bool false)) E A L' z q' n lq 0 lf := by
  constructor
  · simp only [idAt_setCell]
    simpa using h.id
  · exact cset (cset (cset (cset (cset (cset (cset (cset (cset h.c20))))))))
  · exact cset (cset (cset (cset (cset (cset (cset (cset (cset h.c21))))))))
  · exact cset (cset (cset (cset (cset (cset (cset (cset (cset h.c22))))))))
  · exact cset (cset (cset (cset (cset (cset (cset (cset (cset h.c23))))))))
  · exact cset (cset (cset (cset (cset (cset (cset (cset (cset h.c24))))))))
  · exact cset (cset (cset (cset (cset (cset (cset (cset (cset h.c25))))))))
  · exact cset (cset (cset (cset (cset (cset (cset (cset (cset h.c26))))))))
  · exact cset (cset (cset (cset (cset (cset (cset (cset (cset h.c27))))))))
  · exact cset (cset (cset (cset (cset (cset (cset (cset (cset h.c28))))))))
  · exact cset (cset (cset (cset (cset (cset (cset (cset (cset h.c29))))))))
  · exact cset (cset (cset (cset (cset (cset (cset (cset (cset h.c30))))))))
  · exact cset (cset (cset (cset (cset (cset (cset (cset (cset h.c31))))))))
  · exact cset (cset (cset (cset (cset (cset (cset (cset (cset h.c32))))))))
  · exact cset (cset (cset (cset (cset (cset (cset (cset (cset h.c33))))))))
  · obtain ⟨x, hx⟩ := h.c34
    exact ⟨_, cset (cset (cset (cset (cset (cset (cset (cset (cset hx))))))))⟩
  · intro i; simpa using h.fz i
  · simpa [World.setCell] using h.lt
  · exact hn
  · exact h.bq

set_option maxRecDepth 8000 in
set_option maxHeartbeats 16000000 in
theorem answered_again (T BS BK ES c E : Nat) (s i A : ID20) (p : Nat → Int) (la q n L q' lr lq f lf : Int) (z : Addr) (w : World) (ht : Tab w T BS BK s 0 la (.slice (some ⟨ES, 0, none⟩) 1 c)) (he : Ent w E A L z q' lr lq f lf)
    (hes : w.cell? ⟨ES, 0, none⟩ = some (.pointer (some ⟨E, 0, none⟩))) (lES : ES < w.heap.size) (dET : E ≠ T) (dES : E ≠ BS) (dEK : E ≠ BK) (dTE : ES ≠ T)
    (hq : (i.1 == s.1) = false) (hi : (A.1 == i.1) = true) (hn0 : 0 ≤ n) (hn1 : n ≤ 4611686018427387904) :
    Calls Tryd.prog 10 #[.pointer (some ⟨T, 0, none⟩), .agg (ctv i p z q), tm n] w fun e w' => e = .returned (.tuple #[.agg zc49, .bool false]) ∧ AgainP T BS BK E s A (if la < n then n else la) lq lf z (.slice (some ⟨ES, 0, none⟩) 1 c) w w' := by
  have HE : Hid (Ent w E A L z q' lr lq f lf) := he
  have HES : Hid (w.cell? ⟨ES, 0, none⟩ = some (.pointer (some ⟨E, 0, none⟩))) := hes
  have HD : Hid (E ≠ T ∧ E ≠ BS ∧ E ≠ BK ∧ ES ≠ T ∧ ES < w.heap.size ∧ T < w.heap.size ∧ E < w.heap.size ∧ BS < w.heap.size ∧ BK < w.heap.size ∧ T ≠ BK) := ⟨dET, dES, dEK, dTE, lES, ht.lT, he.lt, ht.lS, ht.lK, ht.dTK⟩
  clear he hes dET dES dEK dTE lES
  obtain ⟨W0, hW0⟩ : ∃ W0, W0 = ((w.alloc (.cells (ctv i p z q) 49)).alloc (.cells #[.int .u64 (n % 1000000000), .int .i64 (n / 1000000000), .pointer none] 37)).alloc (.cells zc49 49) := ⟨_, rfl⟩
  have b0 : Below w.heap.size w W0 := by rw [hW0]; exact (((Below.refl _ _).alloc (Nat.le_refl _) _).alloc (by simp) _).alloc (by simp; omega) _
  have z0 : W0.heap.size = w.heap.size + 1 + 1 + 1 := by rw [hW0]; simp
  have hT0 := ht.below b0 (Nat.le_refl _)
  have z49 := zero49
  have s49 := zc49_size
  have hX0 : Box W0 w.heap.size (w.heap.size + 1) i (lo4 p) z q n := by
    rw [hW0, ctv]
    constructor <;> simp [go_sem]
  have r0 : roomAt W0 (w.heap.size + 1 + 1) 24 := by rw [hW0]; simp [go_sem, s49]
  have l1 := ld33 T s
  have l2 := ld33 w.heap.size i
  have i1 := hT0.id
  have i2 := hX0.id
  have e1 := eq33 i s
  rw [hq] at e1
  have lT := ht.lT
  have HT0 : Hid (Tab W0 T BS BK s 0 la (.slice (some ⟨ES, 0, none⟩) 1 c)) := hT0
  have HX0 : Hid (Box W0 w.heap.size (w.heap.size + 1) i (lo4 p) z q n) := hX0
  have HR0 : Hid (roomAt W0 (w.heap.size + 1 + 1) 24) := r0
  have HB : Hid (Below w.heap.size w W0) := b0
  have HZ : Hid (W0.heap.size = w.heap.size + 1 + 1 + 1 ∧ T < w.heap.size) := ⟨z0, lT⟩
  clear hT0 b0 hX0 z0 r0 lT ht
  unfold tm
  go_enter_defers Tryd.func10, Tryd.ntmps10
  go_wp2_with fail
  rw [← hW0]
  clear hW0
  go_quiet (fail)
  obtain ⟨wD, hD⟩ : ∃ W : World, W = W0.drewN nq := ⟨_, rfl⟩
  have hbD : Below W0.heap.size W0 wD := by rw [hD]; exact below_drewN (Below.refl _ _) _
  rw [← hD]
  clear hD i1 i2 e1
  have hTD := HT0.out.below hbD (Nat.le_refl _)
  have hlk := lock_free muLib ⟨T, 20, none⟩ wD hTD.mu (hTD.fT 20)
  have hT1' := hTD.set_mu 1
  have kD : Keep [T] W0 (wD.setCell ⟨T, 20, none⟩ (.int .i32 1)) := (Keep.ofBelow hbD).trans (Keep.set _ _ _ (by simp))
  obtain ⟨w1, hw1⟩ : ∃ w1, w1 = wD.setCell ⟨T, 20, none⟩ (.int .i32 1) := ⟨_, rfl⟩
  rw [← hw1] at hT1' kD
  have zz := HZ.out
  have hX1 := HX0.out.keep kD (by simp; omega) (by simp; omega)
  have HT1 : Hid (Tab w1 T BS BK s 1 la (.slice (some ⟨ES, 0, none⟩) 1 c)) := hT1'
  have HX1 : Hid (Box w1 w.heap.size (w.heap.size + 1) i (lo4 p) z q n) := hX1
  have HK1 : Hid (Keep [T] W0 w1) := kD
  have HW1 : Hid (w1 = wD.setCell ⟨T, 20, none⟩ (.int .i32 1)) := hw1
  have rT23 : ∀ W, Below w1.heap.size w1 W → W.cell? ⟨T, 23, none⟩ = some (.int .u64 (la % 1000000000)) := fun W hb => by rw [hb.cell (p := ⟨T, 23, none⟩) hT1'.lT]; exact hT1'.a0
  have rT24 : ∀ W, Below w1.heap.size w1 W → W.cell? ⟨T, 24, none⟩ = some (.int .i64 (la / 1000000000)) := fun W hb => by rw [hb.cell (p := ⟨T, 24, none⟩) hT1'.lT]; exact hT1'.a1
  have rT25 : ∀ W, Below w1.heap.size w1 W → W.cell? ⟨T, 25, none⟩ = some (.pointer none) := fun W hb => by rw [hb.cell (p := ⟨T, 25, none⟩) hT1'.lT]; exact hT1'.a2
  have y0 : ∀ W, Below w1.heap.size w1 W → W.cell? ⟨w.heap.size + 1, 0, none⟩ = some (.int .u64 (n % 1000000000)) := fun W hb => by rw [hb.cell (p := ⟨w.heap.size + 1, 0, none⟩) hX1.lt]; exact hX1.t0
  have y1 : ∀ W, Below w1.heap.size w1 W → W.cell? ⟨w.heap.size + 1, 1, none⟩ = some (.int .i64 (n / 1000000000)) := fun W hb => by rw [hb.cell (p := ⟨w.heap.size + 1, 1, none⟩) hX1.lt]; exact hX1.t1
  have y2 : ∀ W, Below w1.heap.size w1 W → W.cell? ⟨w.heap.size + 1, 2, none⟩ = some (.pointer none) := fun W hb => by rw [hb.cell (p := ⟨w.heap.size + 1, 2, none⟩) hX1.lt]; exact hX1.t2
  have fT : ∀ W i, Below w1.heap.size w1 W → W.frozen? ⟨T, i, none⟩ = false := fun W i hb => by rw [hb.frozen (p := ⟨T, i, none⟩) hT1'.lT]; exact hT1'.fT i
  have hS0 : Below w1.heap.size w1 w1 := Below.refl _ _
  have haf := fun W => after_any n la W
  clear hT1' hX1 kD hTD hbD hw1 zz HX0 HT0
  go_wp2_with fail
  refine hlk.mono ?_
  rintro e w' ⟨rfl, hw⟩
  rw [← HW1.out] at hw
  subst w'
  clear hlk HW1
  go_wp2_with fail
  go_region_held3 (fun w' => Below w1.heap.size w1 w') (first | assumption | exact Below.drew (by assumption)) (first | (go_at_call 19; refine (haf _).mono ?_; rintro e w2 ⟨rfl, hb⟩; have hn := below_step (by assumption) (Nat.le_refl _) hb))
  by_cases hgt : la < n
  · have hgt1 : decide (la < n) = true := by simpa using hgt
    have hT3 := (HT1.out.below hn (Nat.le_refl _)).set_la n
    have hK3 := (((HK1.out.trans (Keep.ofBelow hn)).trans (Keep.set (L := [T]) _ ⟨T, 23, none⟩ (.int .u64 (n % 1000000000)) (by simp))).trans (Keep.set _ ⟨T, 24, none⟩ (.int .i64 (n / 1000000000)) (by simp))).trans (Keep.set _ ⟨T, 25, none⟩ (.pointer none) (by simp))
    have hk12 := ((((Keep.ofBelow (L := [T]) hn)).trans (Keep.set (L := [T]) _ ⟨T, 23, none⟩ (.int .u64 (n % 1000000000)) (by simp))).trans (Keep.set _ ⟨T, 24, none⟩ (.int .i64 (n / 1000000000)) (by simp))).trans (Keep.set _ ⟨T, 25, none⟩ (.pointer none) (by simp))
    have zz := HZ.out
    have d := HD.out
    have hX3 := HX1.out.keep hk12 (by simp; omega) (by simp; omega)
    have hkw3 := (Keep.ofBelow (L := [T]) HB.out).trans hK3
    have hE3 := HE.out.keep hkw3 (by simp; omega)
    have es3 := (hkw3.cell ES 0 (by omega) (by simp; omega)).trans HES.out
    have hfind := find_hit T BS BK ES 1 c E s A i 1 n _ hT3 (by decide) es3 hE3.id (by have := hkw3.size; omega) hE3.lt hi
    have i3 := hX3.id
    have HE3 := hidOf hE3
    have HS3 := hidOf es3
    clear hE3 es3 hkw3 d
    have dn1 : ¬ T = w.heap.size := by omega
    have dn2 : ¬ w.heap.size = T := by omega
    go_wp2_with fail
    refine hfind.mono ?_
    rintro e w4 ⟨rfl, hb4⟩
    have HT4 : Hid (Tab w4 T BS BK s 1 n (.slice (some ⟨ES, 0, none⟩) 1 c)) := hT3.below hb4 (Nat.le_refl _)
    have HX4 : Hid (Box w4 w.heap.size (w.heap.size + 1) i (lo4 p) z q n) := hX3.keep (l := []) (Keep.ofBelow hb4) (by simp) (by simp)
    have HK4 : Hid (Keep [T] W0 w4) := hK3.trans (Keep.ofBelow hb4)
    have HE4 : Hid (Ent w4 E A L z q' lr lq f lf) := HE3.out.below hb4 (Nat.le_refl _)
    have es4 : w4.cell? ⟨ES, 0, none⟩ = some (.pointer (some ⟨E, 0, none⟩)) := by rw [hb4.cell (p := ⟨ES, 0, none⟩) (by show ES < _; have := HD.out; have := hK3.size; omega)]; exact HS3.out
    clear hT3 hX3 hK3 hk12 i3 hfind hb4 hn hb rT23 rT24 rT25 y0 y1 y2 fT hS0 haf HT1 HX1 HK1 HE3 HS3 zz
    have en4 := HT4.out.en
    go_wp2_with fail
    clear es4 en4
    have rd : ∀ W, Below w4.heap.size w4 W → Ent W E A L z q' lr lq f lf ∧ Box W w.heap.size (w.heap.size + 1) i (lo4 p) z q n := fun W hb => ⟨HE4.out.below hb (Nat.le_refl _), HX4.out.keep (l := []) (Keep.ofBelow hb) (by simp) (by simp)⟩
    have f20 : ∀ W, Below w4.heap.size w4 W → W.cell? ⟨E, 20, none⟩ = some (.int .u64 0) := fun W hb => (rd W hb).1.c20
    have f21 : ∀ W, Below w4.heap.size w4 W → W.cell? ⟨E, 21, none⟩ = some (.int .u64 L) := fun W hb => (rd W hb).1.c21
    have f22 : ∀ W, Below w4.heap.size w4 W → W.cell? ⟨E, 22, none⟩ = some (.pointer (some z)) := fun W hb => (rd W hb).1.c22
    have f23 : ∀ W, Below w4.heap.size w4 W → W.cell? ⟨E, 23, none⟩ = some (.int .u16 q') := fun W hb => (rd W hb).1.c23
    have g20 : ∀ W, Below w4.heap.size w4 W → W.cell? ⟨w.heap.size, 20, none⟩ = some (.int .u64 0) := fun W hb => (rd W hb).2.a20
    have g21 : ∀ W, Below w4.heap.size w4 W → W.cell? ⟨w.heap.size, 21, none⟩ = some (.int .u64 (lo4 p)) := fun W hb => (rd W hb).2.a21
    have g22 : ∀ W, Below w4.heap.size w4 W → W.cell? ⟨w.heap.size, 22, none⟩ = some (.pointer (some z)) := fun W hb => (rd W hb).2.a22
    have g23 : ∀ W, Below w4.heap.size w4 W → W.cell? ⟨w.heap.size, 23, none⟩ = some (.int .u16 q) := fun W hb => (rd W hb).2.a23
    have g24 : ∀ W, Below w4.heap.size w4 W → W.cell? ⟨w.heap.size + 1, 0, none⟩ = some (.int .u64 (n % 1000000000)) := fun W hb => (rd W hb).2.t0
    have g25 : ∀ W, Below w4.heap.size w4 W → W.cell? ⟨w.heap.size + 1, 1, none⟩ = some (.int .i64 (n / 1000000000)) := fun W hb => (rd W hb).2.t1
    have g26 : ∀ W, Below w4.heap.size w4 W → W.cell? ⟨w.heap.size + 1, 2, none⟩ = some (.pointer none) := fun W hb => (rd W hb).2.t2
    have hst : ∀ W, Below w4.heap.size w4 W → Calls Tryd.prog 21 #[.pointer (some ⟨T, 0, none⟩), .pointer (some ⟨E, 0, none⟩), tm n] W fun e w' => StP (3 ≤ f ∧ lf < n) e ∧ Below W.heap.size W w' := fun W hb => status_any T BS BK E s A 1 n L q' lr lq f lf n z _ W (HT4.out.below hb (Nat.le_refl _)) (rd W hb).1 hn0 hn1
    have HST := hidOf hst
    have q47 := eq47 L (lo4 p) q' q z
    have hS0 : Below w4.heap.size w4 w4 := Below.refl _ _
    clear rd hst
    by_cases hadr : (L == lo4 p && q' == q) = true
    · rw [hadr] at q47
      clear hadr
      have u20 := f20 _ hS0
      have u21 := f21 _ hS0
      have u22 := f22 _ hS0
      have u23 := f23 _ hS0
      have v20 := g20 _ hS0
      have v21 := g21 _ hS0
      have v22 := g22 _ hS0
      have v23 := g23 _ hS0
      clear HST f20 f21 f22 f23 g20 g21 g22 g23 g24 g25 g26
      go_quiet (fail)
      obtain ⟨w5, h5⟩ : ∃ W : World, W = w4.drewN nq := ⟨_, rfl⟩
      have hb5 : Below w4.heap.size w4 w5 := by rw [h5]; exact below_drewN (Below.refl _ _) _
      rw [← h5]
      clear h5 u20 u21 u22 u23 v20 v21 v22 v23 q47 hS0
      have HT5 : Hid (Tab w5 T BS BK s 1 n (.slice (some ⟨ES, 0, none⟩) 1 c)) := HT4.out.below hb5 (Nat.le_refl _)
      have HE5 : Hid (Ent w5 E A L z q' lr lq f lf) := HE4.out.below hb5 (Nat.le_refl _)
      have HX5 : Hid (Box w5 w.heap.size (w.heap.size + 1) i (lo4 p) z q n) := HX4.out.keep (l := []) (Keep.ofBelow hb5) (by simp) (by simp)
      have HK5 : Hid (Keep [T] W0 w5) := HK4.out.trans (Keep.ofBelow hb5)
      clear HT4 HX4 HK4 HE4 hb5
      go_wp2_with fail
      have cx := HX5.out
      have fE := HE5.out.fz
      have d := HD.out
      have zz := HZ.out
      have hz5 := HK5.out.size
      have ncE : w.heap.size ∉ [E] := by simp; omega
      have ntE : w.heap.size + 1 ∉ [E] := by simp; omega
      have g20 : ∀ W, Keep [E] w5 W → W.cell? ⟨w.heap.size, 20, none⟩ = some (.int .u64 0) := fun W hb => (cx.keep hb ncE ntE).a20
      have g21 : ∀ W, Keep [E] w5 W → W.cell? ⟨w.heap.size, 21, none⟩ = some (.int .u64 (lo4 p)) := fun W hb => (cx.keep hb ncE ntE).a21
      have g22 : ∀ W, Keep [E] w5 W → W.cell? ⟨w.heap.size, 22, none⟩ = some (.pointer (some z)) := fun W hb => (cx.keep hb ncE ntE).a22
      have g23 : ∀ W, Keep [E] w5 W → W.cell? ⟨w.heap.size, 23, none⟩ = some (.int .u16 q) := fun W hb => (cx.keep hb ncE ntE).a23
      have g24 : ∀ W, Keep [E] w5 W → W.cell? ⟨w.heap.size + 1, 0, none⟩ = some (.int .u64 (n % 1000000000)) := fun W hb => (cx.keep hb ncE ntE).t0
      have g25 : ∀ W, Keep [E] w5 W → W.cell? ⟨w.heap.size + 1, 1, none⟩ = some (.int .i64 (n / 1000000000)) := fun W hb => (cx.keep hb ncE ntE).t1
      have g26 : ∀ W, Keep [E] w5 W → W.cell? ⟨w.heap.size + 1, 2, none⟩ = some (.pointer none) := fun W hb => (cx.keep hb ncE ntE).t2
      have c20 := HE5.out.c20
      have c21 := HE5.out.c21
      have c22 := HE5.out.c22
      have c23 := HE5.out.c23
      have c24 := HE5.out.c24
      have c25 := HE5.out.c25
      have c26 := HE5.out.c26
      have c30 := HE5.out.c30
      obtain ⟨x34, c34⟩ := HE5.out.c34
      clear cx d zz hz5 ncE ntE
      refine wp_region_noPanic ?_
      refine wp_region_held_drew (S := fun w' => Keep [E] w5 w') (by kernel_rfl) (Keep.ofBelow (Below.refl _ _).drew) (fun hHeld => ?_)
      refine wpAnyH_take (i := 0) (v := ?v0_1) rfl (by kernel_rfl) (by kernel_rfl) (by kernel_rfl) (fun _ _ _ h => h) (Or.inl ⟨by rfl, ?y0_1⟩) (by assumption) ?r0_1
      case y0_1 => intro w hSw; go_simp; try with_reducible rfl
      simp only [List.getElem_toArray, List.getElem_cons_succ, List.getElem_cons_zero, Act.put, List.setIfInBounds_toArray, List.set_cons_zero, List.set_cons_succ]
      refine wpAnyH_take (i := 1) (v := ?v1_2) rfl (by kernel_rfl) (by kernel_rfl) (by kernel_rfl) (fun _ _ _ h => h) (Or.inl ⟨by rfl, ?y1_2⟩) (by assumption) ?r1_2
      case y1_2 => intro w hSw; go_simp; try with_reducible rfl
      simp only [List.getElem_toArray, List.getElem_cons_succ, List.getElem_cons_zero, Act.put, List.setIfInBounds_toArray, List.set_cons_zero, List.set_cons_succ]
      refine wpAnyH_take (i := 2) (v := ?v2_3) rfl (by kernel_rfl) (by kernel_rfl) (by kernel_rfl) (fun _ _ _ h => h) (Or.inl ⟨by rfl, ?y2_3⟩) (by assumption) ?r2_3
      case y2_3 => intro w hSw; go_simp; try with_reducible rfl
      simp only [List.getElem_toArray, List.getElem_cons_succ, List.getElem_cons_zero, Act.put, List.setIfInBounds_toArray, List.set_cons_zero, List.set_cons_succ]
      refine wpAnyH_take (i := 3) (v := ?v3_4) rfl (by kernel_rfl) (by kernel_rfl) (by kernel_rfl) (fun _ _ _ h => h) (Or.inl ⟨by rfl, ?y3_4⟩) (by assumption) ?r3_4
      case y3_4 => intro w hSw; go_simp; try with_reducible rfl
      simp only [List.getElem_toArray, List.getElem_cons_succ, List.getElem_cons_zero, Act.put, List.setIfInBounds_toArray, List.set_cons_zero, List.set_cons_succ]
      refine wpAnyH_take (i := 4) (v := ?v4_5) rfl (by kernel_rfl) (by kernel_rfl) (by kernel_rfl) (fun _ _ _ h => h) (Or.inl ⟨by rfl, ?y4_5⟩) (by assumption) ?r4_5
      case y4_5 => intro w hSw; go_simp; try with_reducible rfl
      simp only [List.getElem_toArray, List.getElem_cons_succ, List.getElem_cons_zero, Act.put, List.setIfInBounds_toArray, List.set_cons_zero, List.set_cons_succ]
      refine wpAnyH_take (i := 5) (v := ?v5_6) rfl (by kernel_rfl) (by kernel_rfl) (by kernel_rfl) (fun _ _ _ h => h) (Or.inl ⟨by rfl, ?y5_6⟩) (by assumption) ?r5_6
      case y5_6 => intro w hSw; go_simp; try with_reducible rfl
      simp only [List.getElem_toArray, List.getElem_cons_succ, List.getElem_cons_zero, Act.put, List.setIfInBounds_toArray, List.set_cons_zero, List.set_cons_succ]
      refine wpAnyH_take (i := 6) (v := ?v6_7) rfl (by kernel_rfl) (by kernel_rfl) (by kernel_rfl) (fun _ _ _ h => h) (Or.inl ⟨by rfl, ?y6_7⟩) (by assumption) ?r6_7
      case y6_7 => intro w hSw; go_simp; try with_reducible rfl
      simp only [List.getElem_toArray, List.getElem_cons_succ, List.getElem_cons_zero, Act.put, List.setIfInBounds_toArray, List.set_cons_zero, List.set_cons_succ]
      refine wpAnyH_take (i := 7) (v := ?v7_8) rfl (by kernel_rfl) (by kernel_rfl) (by kernel_rfl) (fun _ _ _ h => h) (Or.inl ⟨by rfl, ?y7_8⟩) (by assumption) ?r7_8
      case y7_8 => intro w hSw; go_simp; try with_reducible rfl
      simp only [List.getElem_toArray, List.getElem_cons_succ, List.getElem_cons_zero, Act.put, List.setIfInBounds_toArray, List.set_cons_zero, List.set_cons_succ]
      refine wpAnyH_take (i := 8) (v := ?v8_9) rfl (by kernel_rfl) (by kernel_rfl) (by kernel_rfl) (fun _ _ _ h => h) (Or.inl ⟨by rfl, ?y8_9⟩) (by assumption) ?r8_9
      case y8_9 => intro w hSw; go_simp; try with_reducible rfl
      simp only [List.getElem_toArray, List.getElem_cons_succ, List.getElem_cons_zero, Act.put, List.setIfInBounds_toArray, List.set_cons_zero, List.set_cons_succ]
      refine wpAnyH_take (i := 9) (v := ?v9_10) rfl (by kernel_rfl) (by kernel_rfl) (by kernel_rfl) (fun _ _ _ h => h) (Or.inl ⟨by rfl, ?y9_10⟩) (by assumption) ?r9_10
      case y9_10 => intro w hSw; go_simp; try with_reducible rfl
      simp only [List.getElem_toArray, List.getElem_cons_succ, List.getElem_cons_zero, Act.put, List.setIfInBounds_toArray, List.set_cons_zero, List.set_cons_succ]
      refine wpAnyH_ready (rs := [10]) (by kernel_rfl) (by simp) ?_
      refine AllReadyH.cons rfl (fun K hK => ?_) AllReadyH.nil
      go_simp
      refine hK.out _ _ ((((((Keep.refl [E] w5).trans (Keep.set _ _ _ (by simp))).trans (Keep.set _ _ _ (by simp))).trans (Keep.set _ _ _ (by simp))).trans (Keep.set _ _ _ (by simp))).trans (Keep.ofBelow (Below.refl _ _).drew)) (fun hH10 => ?_)
      clear hK K
      refine wpAnyH_take (i := 11) (v := ?v11_11) rfl (by kernel_rfl) (by kernel_rfl) (by kernel_rfl) (fun _ _ _ h => h) (Or.inl ⟨by rfl, ?y11_11⟩) (by assumption) ?r11_11
      case y11_11 => intro w hSw; go_simp; try with_reducible rfl
      simp only [List.getElem_toArray, List.getElem_cons_succ, List.getElem_cons_zero, Act.put, List.setIfInBounds_toArray, List.set_cons_zero, List.set_cons_succ]
      refine wpAnyH_take (i := 12) (v := ?v12_12) rfl (by kernel_rfl) (by kernel_rfl) (by kernel_rfl) (fun _ _ _ h => h) (Or.inl ⟨by rfl, ?y12_12⟩) (by assumption) ?r12_12
      case y12_12 => intro w hSw; go_simp; try with_reducible rfl
      simp only [List.getElem_toArray, List.getElem_cons_succ, List.getElem_cons_zero, Act.put, List.setIfInBounds_toArray, List.set_cons_zero, List.set_cons_succ]
      refine wpAnyH_ready (rs := [13]) (by kernel_rfl) (by simp) ?_
      refine AllReadyH.cons rfl (fun K hK => ?_) AllReadyH.nil
      go_simp
      refine hK.out _ _ (((((((((Keep.refl [E] w5).trans (Keep.set _ _ _ (by simp))).trans (Keep.set _ _ _ (by simp))).trans (Keep.set _ _ _ (by simp))).trans (Keep.set _ _ _ (by simp))).trans (Keep.set _ _ _ (by simp))).trans (Keep.set _ _ _ (by simp))).trans (Keep.set _ _ _ (by simp))).trans (Keep.ofBelow (Below.refl _ _).drew)) (fun hH13 => ?_)
      clear hK K
      refine wpAnyH_take (i := 14) (v := ?v14_13) rfl (by kernel_rfl) (by kernel_rfl) (by kernel_rfl) (fun _ _ _ h => h) (Or.inl ⟨by rfl, ?y14_13⟩) (by assumption) ?r14_13
      case y14_13 => intro w hSw; go_simp; try with_reducible rfl
      simp only [List.getElem_toArray, List.getElem_cons_succ, List.getElem_cons_zero, Act.put, List.setIfInBounds_toArray, List.set_cons_zero, List.set_cons_succ]
      refine wpAnyH_take (i := 15) (v := ?v15_14) rfl (by kernel_rfl) (by kernel_rfl) (by kernel_rfl) (fun _ _ _ h => h) (Or.inl ⟨by rfl, ?y15_14⟩) (by assumption) ?r15_14
      case y15_14 => intro w hSw; go_simp; try with_reducible rfl
      simp only [List.getElem_toArray, List.getElem_cons_succ, List.getElem_cons_zero, Act.put, List.setIfInBounds_toArray, List.set_cons_zero, List.set_cons_succ]
      refine wpAnyH_ready (rs := [16]) (by kernel_rfl) (by simp) ?_
      refine AllReadyH.cons rfl (fun K hK => ?_) AllReadyH.nil
      go_simp
      refine hK.out _ _ ((((((((((Keep.refl [E] w5).trans (Keep.set _ _ _ (by simp))).trans (Keep.set _ _ _ (by simp))).trans (Keep.set _ _ _ (by simp))).trans (Keep.set _ _ _ (by simp))).trans (Keep.set _ _ _ (by simp))).trans (Keep.set _ _ _ (by simp))).trans (Keep.set _ _ _ (by simp))).trans (Keep.set _ _ _ (by simp))).trans (Keep.ofBelow (Below.refl _ _).drew)) (fun hH16 => ?_)
      clear hK K
      refine wpAnyH_take (i := 17) (v := ?v17_15) rfl (by kernel_rfl) (by kernel_rfl) (by kernel_rfl) (fun _ _ _ h => h) (Or.inl ⟨by rfl, ?y17_15⟩) (by assumption) ?r17_15
      case y17_15 => intro w hSw; go_simp; try with_reducible rfl
      simp only [List.getElem_toArray, List.getElem_cons_succ, List.getElem_cons_zero, Act.put, List.setIfInBounds_toArray, List.set_cons_zero, List.set_cons_succ]
      refine wpAnyH_take (i := 18) (v := ?v18_16) rfl (by kernel_rfl) (by kernel_rfl) (by kernel_rfl) (fun _ _ _ h => h) (Or.inl ⟨by rfl, ?y18_16⟩) (by assumption) ?r18_16
      case y18_16 => intro w hSw; go_simp; try with_reducible rfl
      simp only [List.getElem_toArray, List.getElem_cons_succ, List.getElem_cons_zero, Act.put, List.setIfInBounds_toArray, List.set_cons_zero, List.set_cons_succ]
      refine wpAnyH_ready (rs := [19]) (by kernel_rfl) (by simp) ?_
      refine AllReadyH.cons rfl (fun K hK => ?_) AllReadyH.nil
      go_simp
      refine hK.out _ _ (((((((((((Keep.refl [E] w5).trans (Keep.set _ _ _ (by simp))).trans (Keep.set _ _ _ (by simp))).trans (Keep.set _ _ _ (by simp))).trans (Keep.set _ _ _ (by simp))).trans (Keep.set _ _ _ (by simp))).trans (Keep.set _ _ _ (by simp))).trans (Keep.set _ _ _ (by simp))).trans (Keep.set _ _ _ (by simp))).trans (Keep.set _ _ _ (by simp))).trans (Keep.ofBelow (Below.refl _ _).drew)) (fun hH19 => ?_)
      clear hK K
      refine wpAnyH_done (by kernel_rfl) ?_ _
      refine NoPanic.normal ?_
      have d := HD.out
      have zz := HZ.out
      have hE6 := (HE5.out.set_again (lo4 p) q n ⟨hn0, hn1⟩).drew
      obtain ⟨w6, h6⟩ : ∃ W : World, W = (((((((((w5.setCell ⟨E, 20, none⟩ (.int .u64 0)).setCell ⟨E, 21, none⟩ (.int .u64 (lo4 p))).setCell ⟨E, 22, none⟩ (.pointer (some z))).setCell ⟨E, 23, none⟩ (.int .u16 q)).setCell ⟨E, 24, none⟩ (.int .u64 (n % 1000000000))).setCell ⟨E, 25, none⟩ (.int .i64 (n / 1000000000))).setCell ⟨E, 26, none⟩ (.pointer none)).setCell ⟨E, 30, none⟩ (.int .i64 0)).setCell ⟨E, 34, none⟩ (.bool false)).drew := ⟨_, rfl⟩
      rw [← h6] at hE6 hH19
      have hT6 := HT5.out.keep hH19 (by simp; omega) (by simp; omega) (by simp; omega)
      have hz5 := HK5.out.size
      have cx := HX5.out.keep hH19 (by simp; omega) (by simp; omega)
      have r6 : roomAt w6 (w.heap.size + 1 + 1) 24 := hH19.room _ 24 (by omega) (by simp; omega) (HK5.out.room _ 24 (by omega) (by simp; omega) HR0.out)
      have yy0 := cx.t0
      have yy1 := cx.t1
      have yy2 := cx.t2
      obtain ⟨e1, d1'⟩ := hT6.k1
      obtain ⟨e2, d2'⟩ := hT6.k2
      obtain ⟨e3, d3'⟩ := hT6.k3
      have f10 := hT6.fK
      have dn5 : ¬ BK = w.heap.size + 1 := by omega
      have dn6 : ¬ w.heap.size + 1 = BK := by omega
      have dn7 : ¬ BK = w.heap.size + 1 + 1 := by omega
      have dn8 : ¬ w.heap.size + 1 + 1 = BK := by omega
      have bz := build49_zero
      have st := st49 zc49 zc49_size zc49_one (w.heap.size + 1 + 1)
      have H6 : Hid (Tab w6 T BS BK s 1 n (.slice (some ⟨ES, 0, none⟩) 1 c) ∧ Ent w6 E A (lo4 p) z q n lq 0 lf ∧ Keep [E] w5 w6) := ⟨hT6, hE6, hH19⟩
      rw [← h6]
      clear h6 hT6 hE6 hH19 hH16 hH13 hH10 hHeld cx g20 g21 g22 g23 g24 g25 g26 c20 c21 c22 c23 c24 c25 c26 c30 c34 fE d zz hz5
      go_wp2_with fail
      have h6 := H6.out
      have d := HD.out
      have zz := HZ.out
      have hz5 := HK5.out.size
      have hT11 := ((h6.1.set_en 1 (.int .u64 (n % 1000000000))).set_en 2 (.int .i64 (n / 1000000000))).set_en 3 (.pointer none)
      rw [if_neg (by decide), if_neg (by decide), if_neg (by decide)] at hT11
      have k11 : Keep [BK] w6 (((w6.setCell ⟨BK, 1, none⟩ (.int .u64 (n % 1000000000))).setCell ⟨BK, 2, none⟩ (.int .i64 (n / 1000000000))).setCell ⟨BK, 3, none⟩ (.pointer none)) := ((Keep.set _ _ _ (by simp)).trans (Keep.set _ _ _ (by simp))).trans (Keep.set _ _ _ (by simp))
      have r11 : roomAt (((w6.setCell ⟨BK, 1, none⟩ (.int .u64 (n % 1000000000))).setCell ⟨BK, 2, none⟩ (.int .i64 (n / 1000000000))).setCell ⟨BK, 3, none⟩ (.pointer none)) (w.heap.size + 1 + 1) 24 := by rw [roomAt_set, roomAt_set, roomAt_set]; exact r6
      obtain ⟨w11, h11⟩ : ∃ W : World, W = ((w6.setCell ⟨BK, 1, none⟩ (.int .u64 (n % 1000000000))).setCell ⟨BK, 2, none⟩ (.int .i64 (n / 1000000000))).setCell ⟨BK, 3, none⟩ (.pointer none) := ⟨_, rfl⟩
      rw [← h11] at hT11 k11 r11
      rw [← h11]
      clear h11
      have k12 := Keep.cells w11 (w.heap.size + 1 + 1) 0 zc49.toList
      have hT12 := hT11.keep k12 (by simp; omega) (by simp; omega) (by simp; omega)
      have l49 := ld49_other zc49 zc49_size (w.heap.size + 1 + 1) w11 ⟨T, 20, none⟩ (.int .i32 0) (by show T ≠ _; omega) r11
      have k23 : Keep [T] (w11.setCells (w.heap.size + 1 + 1) 0 zc49.toList) ((w11.setCells (w.heap.size + 1 + 1) 0 zc49.toList).setCell ⟨T, 20, none⟩ (.int .i32 0)) := Keep.set _ _ _ (by simp)
      refine leaves_cons (f := 18) (args := #[.pointer (some ⟨T, 20, none⟩)]) (by simp) (by simp [go_sem]) ?_
      refine (unlock_deferred muLib ⟨T, 20, none⟩ .returning _ hT12.mu (hT12.fT 20)).mono ?_
      rintro e u' w'' ⟨rfl, rfl, rfl⟩
      refine ⟨.tuple #[.agg zc49, .bool false], ?_, rfl, ⟨lo4 p, q, n, 0, hT12.set_mu 0, ?_, by omega⟩, ?_⟩
      · simp [results, Tryd.results10, go_sem, l49]
      · refine ((h6.2.1.keep k11 ?_).keep k12 ?_).keep k23 ?_
        · simp; omega
        · simp; omega
        · simp; omega
      · refine Keep.trans (Keep.fresh (Keep.trans (Keep.trans ((Keep.ofBelow HB.out).trans (HK5.out.mono ?_)) (h6.2.2.mono ?_)) (k11.mono ?_)) k12 (by omega)) (k23.mono ?_)
        · simp
        · simp
        · simp
        · simp
    · have hadr' : (L == lo4 p && q' == q) = false := by simpa using hadr
      rw [hadr'] at q47
      clear hadr hadr'
      unfold tm at HST
      go_region_held3 (fun w' => Below w4.heap.size w4 w') (first | assumption | exact Below.drew (by assumption)) (first | (go_at_call 21; refine (HST.out _ (by assumption)).mono ?_; rintro e w5 ⟨⟨st, rfl, hs⟩, hb⟩; have hb5 := below_step (by assumption) (Nat.le_refl _) hb))
      clear f20 f21 f22 f23 g20 g21 g22 g23 g24 g25 g26 q47 hS0 HST hb
      have HT5 : Hid (Tab w5 T BS BK s 1 n (.slice (some ⟨ES, 0, none⟩) 1 c)) := HT4.out.below hb5 (Nat.le_refl _)
      have HE5 : Hid (Ent w5 E A L z q' lr lq f lf) := HE4.out.below hb5 (Nat.le_refl _)
      have HX5 : Hid (Box w5 w.heap.size (w.heap.size + 1) i (lo4 p) z q n) := HX4.out.keep (l := []) (Keep.ofBelow hb5) (by simp) (by simp)
      have HK5 : Hid (Keep [T] W0 w5) := HK4.out.trans (Keep.ofBelow hb5)
      clear HT4 HX4 HK4 HE4 hb5
      by_cases hbad : st = 2
      · subst hbad
        clear hs
        go_wp2_with fail
        have cx := HX5.out
        have fE := HE5.out.fz
        have d := HD.out
        have zz := HZ.out
        have hz5 := HK5.out.size
        have ncE : w.heap.size ∉ [E] := by simp; omega
        have ntE : w.heap.size + 1 ∉ [E] := by simp; omega
        have g20 : ∀ W, Keep [E] w5 W → W.cell? ⟨w.heap.size, 20, none⟩ = some (.int .u64 0) := fun W hb => (cx.keep hb ncE ntE).a20
        have g21 : ∀ W, Keep [E] w5 W → W.cell? ⟨w.heap.size, 21, none⟩ = some (.int .u64 (lo4 p)) := fun W hb => (cx.keep hb ncE ntE).a21
        have g22 : ∀ W, Keep [E] w5 W → W.cell? ⟨w.heap.size, 22, none⟩ = some (.pointer (some z)) := fun W hb => (cx.keep hb ncE ntE).a22
        have g23 : ∀ W, Keep [E] w5 W → W.cell? ⟨w.heap.size, 23, none⟩ = some (.int .u16 q) := fun W hb => (cx.keep hb ncE ntE).a23
        have g24 : ∀ W, Keep [E] w5 W → W.cell? ⟨w.heap.size + 1, 0, none⟩ = some (.int .u64 (n % 1000000000)) := fun W hb => (cx.keep hb ncE ntE).t0
        have g25 : ∀ W, Keep [E] w5 W → W.cell? ⟨w.heap.size + 1, 1, none⟩ = some (.int .i64 (n / 1000000000)) := fun W hb => (cx.keep hb ncE ntE).t1
        have g26 : ∀ W, Keep [E] w5 W → W.cell? ⟨w.heap.size + 1, 2, none⟩ = some (.pointer none) := fun W hb => (cx.keep hb ncE ntE).t2
        have c20 := HE5.out.c20
        have c21 := HE5.out.c21
        have c22 := HE5.out.c22
        have c23 := HE5.out.c23
        have c24 := HE5.out.c24
        have c25 := HE5.out.c25
        have c26 := HE5.out.c26
        have c30 := HE5.out.c30
        obtain ⟨x34, c34⟩ := HE5.out.c34
        clear cx d zz hz5 ncE ntE
        refine wp_region_noPanic ?_
        refine wp_region_held_drew (S := fun w' => Keep [E] w5 w') (by kernel_rfl) (Keep.ofBelow (Below.refl _ _).drew) (fun hHeld => ?_)
        refine wpAnyH_take (i := 0) (v := ?v0_17) rfl (by kernel_rfl) (by kernel_rfl) (by kernel_rfl) (fun _ _ _ h => h) (Or.inl ⟨by rfl, ?y0_17⟩) (by assumption) ?r0_17
        case y0_17 => intro w hSw; go_simp; try with_reducible rfl
        simp only [List.getElem_toArray, List.getElem_cons_succ, List.getElem_cons_zero, Act.put, List.setIfInBounds_toArray, List.set_cons_zero, List.set_cons_succ]
        refine wpAnyH_take (i := 1) (v := ?v1_18) rfl (by kernel_rfl) (by kernel_rfl) (by kernel_rfl) (fun _ _ _ h => h) (Or.inl ⟨by rfl, ?y1_18⟩) (by assumption) ?r1_18
        case y1_18 => intro w hSw; go_simp; try with_reducible rfl
        simp only [List.getElem_toArray, List.getElem_cons_succ, List.getElem_cons_zero, Act.put, List.setIfInBounds_toArray, List.set_cons_zero, List.set_cons_succ]
        refine wpAnyH_take (i := 2) (v := ?v2_19) rfl (by kernel_rfl) (by kernel_rfl) (by kernel_rfl) (fun _ _ _ h => h) (Or.inl ⟨by rfl, ?y2_19⟩) (by assumption) ?r2_19
        case y2_19 => intro w hSw; go_simp; try with_reducible rfl
        simp only [List.getElem_toArray, List.getElem_cons_succ, List.getElem_cons_zero, Act.put, List.setIfInBounds_toArray, List.set_cons_zero, List.set_cons_succ]
        refine wpAnyH_take (i := 3) (v := ?v3_20) rfl (by kernel_rfl) (by kernel_rfl) (by kernel_rfl) (fun _ _ _ h => h) (Or.inl ⟨by rfl, ?y3_20⟩) (by assumption) ?r3_20
        case y3_20 => intro w hSw; go_simp; try with_reducible rfl
        simp only [List.getElem_toArray, List.getElem_cons_succ, List.getElem_cons_zero, Act.put, List.setIfInBounds_toArray, List.set_cons_zero, List.set_cons_succ]
        refine wpAnyH_take (i := 4) (v := ?v4_21) rfl (by kernel_rfl) (by kernel_rfl) (by kernel_rfl) (fun _ _ _ h => h) (Or.inl ⟨by rfl, ?y4_21⟩) (by assumption) ?r4_21
        case y4_21 => intro w hSw; go_simp; try with_reducible rfl
        simp only [List.getElem_toArray, List.getElem_cons_succ, List.getElem_cons_zero, Act.put, List.setIfInBounds_toArray, List.set_cons_zero, List.set_cons_succ]
        refine wpAnyH_take (i := 5) (v := ?v5_22) rfl (by kernel_rfl) (by kernel_rfl) (by kernel_rfl) (fun _ _ _ h => h) (Or.inl ⟨by rfl, ?y5_22⟩) (by assumption) ?r5_22
        case y5_22 => intro w hSw; go_simp; try with_reducible rfl
        simp only [List.getElem_toArray, List.getElem_cons_succ, List.getElem_cons_zero, Act.put, List.setIfInBounds_toArray, List.set_cons_zero, List.set_cons_succ]
        refine wpAnyH_take (i := 6) (v := ?v6_23) rfl (by kernel_rfl) (by kernel_rfl) (by kernel_rfl) (fun _ _ _ h => h) (Or.inl ⟨by rfl, ?y6_23⟩) (by assumption) ?r6_23
        case y6_23 => intro w hSw; go_simp; try with_reducible rfl
        simp only [List.getElem_toArray, List.getElem_cons_succ, List.getElem_cons_zero, Act.put, List.setIfInBounds_toArray, List.set_cons_zero, List.set_cons_succ]
        refine wpAnyH_take (i := 7) (v := ?v7_24) rfl (by kernel_rfl) (by kernel_rfl) (by kernel_rfl) (fun _ _ _ h => h) (Or.inl ⟨by rfl, ?y7_24⟩) (by assumption) ?r7_24
        case y7_24 => intro w hSw; go_simp; try with_reducible rfl
        simp only [List.getElem_toArray, List.getElem_cons_succ, List.getElem_cons_zero, Act.put, List.setIfInBounds_toArray, List.set_cons_zero, List.set_cons_succ]
        refine wpAnyH_take (i := 8) (v := ?v8_25) rfl (by kernel_rfl) (by kernel_rfl) (by kernel_rfl) (fun _ _ _ h => h) (Or.inl ⟨by rfl, ?y8_25⟩) (by assumption) ?r8_25
        case y8_25 => intro w hSw; go_simp; try with_reducible rfl
        simp only [List.getElem_toArray, List.getElem_cons_succ, List.getElem_cons_zero, Act.put, List.setIfInBounds_toArray, List.set_cons_zero, List.set_cons_succ]
        refine wpAnyH_take (i := 9) (v := ?v9_26) rfl (by kernel_rfl) (by kernel_rfl) (by kernel_rfl) (fun _ _ _ h => h) (Or.inl ⟨by rfl, ?y9_26⟩) (by assumption) ?r9_26
        case y9_26 => intro w hSw; go_simp; try with_reducible rfl
        simp only [List.getElem_toArray, List.getElem_cons_succ, List.getElem_cons_zero, Act.put, List.setIfInBounds_toArray, List.set_cons_zero, List.set_cons_succ]
        refine wpAnyH_ready (rs := [10]) (by kernel_rfl) (by simp) ?_
        refine AllReadyH.cons rfl (fun K hK => ?_) AllReadyH.nil
        go_simp
        refine hK.out _ _ ((((((Keep.refl [E] w5).trans (Keep.set _ _ _ (by simp))).trans (Keep.set _ _ _ (by simp))).trans (Keep.set _ _ _ (by simp))).trans (Keep.set _ _ _ (by simp))).trans (Keep.ofBelow (Below.refl _ _).drew)) (fun hH10 => ?_)
        clear hK K
        refine wpAnyH_take (i := 11) (v := ?v11_27) rfl (by kernel_rfl) (by kernel_rfl) (by kernel_rfl) (fun _ _ _ h => h) (Or.inl ⟨by rfl, ?y11_27⟩) (by assumption) ?r11_27
        case y11_27 => intro w hSw; go_simp; try with_reducible rfl
        simp only [List.getElem_toArray, List.getElem_cons_succ, List.getElem_cons_zero, Act.put, List.setIfInBounds_toArray, List.set_cons_zero, List.set_cons_succ]
        refine wpAnyH_take (i := 12) (v := ?v12_28) rfl (by kernel_rfl) (by kernel_rfl) (by kernel_rfl) (fun _ _ _ h => h) (Or.inl ⟨by rfl, ?y12_28⟩) (by assumption) ?r12_28
        case y12_28 => intro w hSw; go_simp; try with_reducible rfl
        simp only [List.getElem_toArray, List.getElem_cons_succ, List.getElem_cons_zero, Act.put, List.setIfInBounds_toArray, List.set_cons_zero, List.set_cons_succ]
        refine wpAnyH_ready (rs := [13]) (by kernel_rfl) (by simp) ?_
        refine AllReadyH.cons rfl (fun K hK => ?_) AllReadyH.nil
        go_simp
        refine hK.out _ _ (((((((((Keep.refl [E] w5).trans (Keep.set _ _ _ (by simp))).trans (Keep.set _ _ _ (by simp))).trans (Keep.set _ _ _ (by simp))).trans (Keep.set _ _ _ (by simp))).trans (Keep.set _ _ _ (by simp))).trans (Keep.set _ _ _ (by simp))).trans (Keep.set _ _ _ (by simp))).trans (Keep.ofBelow (Below.refl _ _).drew)) (fun hH13 => ?_)
        clear hK K
        refine wpAnyH_take (i := 14) (v := ?v14_29) rfl (by kernel_rfl) (by kernel_rfl) (by kernel_rfl) (fun _ _ _ h => h) (Or.inl ⟨by rfl, ?y14_29⟩) (by assumption) ?r14_29
        case y14_29 => intro w hSw; go_simp; try with_reducible rfl
        simp only [List.getElem_toArray, List.getElem_cons_succ, List.getElem_cons_zero, Act.put, List.setIfInBounds_toArray, List.set_cons_zero, List.set_cons_succ]
        refine wpAnyH_take (i := 15) (v := ?v15_30) rfl (by kernel_rfl) (by kernel_rfl) (by kernel_rfl) (fun _ _ _ h => h) (Or.inl ⟨by rfl, ?y15_30⟩) (by assumption) ?r15_30
        case y15_30 => intro w hSw; go_simp; try with_reducible rfl
        simp only [List.getElem_toArray, List.getElem_cons_succ, List.getElem_cons_zero, Act.put, List.setIfInBounds_toArray, List.set_cons_zero, List.set_cons_succ]
        refine wpAnyH_ready (rs := [16]) (by kernel_rfl) (by simp) ?_
        refine AllReadyH.cons rfl (fun K hK => ?_) AllReadyH.nil
        go_simp
        refine hK.out _ _ ((((((((((Keep.refl [E] w5).trans (Keep.set _ _ _ (by simp))).trans (Keep.set _ _ _ (by simp))).trans (Keep.set _ _ _ (by simp))).trans (Keep.set _ _ _ (by simp))).trans (Keep.set _ _ _ (by simp))).trans (Keep.set _ _ _ (by simp))).trans (Keep.set _ _ _ (by simp))).trans (Keep.set _ _ _ (by simp))).trans (Keep.ofBelow (Below.refl _ _).drew)) (fun hH16 => ?_)
        clear hK K
        refine wpAnyH_take (i := 17) (v := ?v17_31) rfl (by kernel_rfl) (by kernel_rfl) (by kernel_rfl) (fun _ _ _ h => h) (Or.inl ⟨by rfl, ?y17_31⟩) (by assumption) ?r17_31
        case y17_31 => intro w hSw; go_simp; try with_reducible rfl
        simp only [List.getElem_toArray, List.getElem_cons_succ, List.getElem_cons_zero, Act.put, List.setIfInBounds_toArray, List.set_cons_zero, List.set_cons_succ]
        refine wpAnyH_take (i := 18) (v := ?v18_32) rfl (by kernel_rfl) (by kernel_rfl) (by kernel_rfl) (fun _ _ _ h => h) (Or.inl ⟨by rfl, ?y18_32⟩) (by assumption) ?r18_32
        case y18_32 => intro w hSw; go_simp; try with_reducible rfl
        simp only [List.getElem_toArray, List.getElem_cons_succ, List.getElem_cons_zero, Act.put, List.setIfInBounds_toArray, List.set_cons_zero, List.set_cons_succ]
        refine wpAnyH_ready (rs := [19]) (by kernel_rfl) (by simp) ?_
        refine AllReadyH.cons rfl (fun K hK => ?_) AllReadyH.nil
        go_simp
        refine hK.out _ _ (((((((((((Keep.refl [E] w5).trans (Keep.set _ _ _ (by simp))).trans (Keep.set _ _ _ (by simp))).trans (Keep.set _ _ _ (by simp))).trans (Keep.set _ _ _ (by simp))).trans (Keep.set _ _ _ (by simp))).trans (Keep.set _ _ _ (by simp))).trans (Keep.set _ _ _ (by simp))).trans (Keep.set _ _ _ (by simp))).trans (Keep.set _ _ _ (by simp))).trans (Keep.ofBelow (Below.refl _ _).drew)) (fun hH19 => ?_)
        clear hK K
        refine wpAnyH_done (by kernel_rfl) ?_ _
        refine NoPanic.normal ?_
        have d := HD.out
        have zz := HZ.out
        have hE6 := (HE5.out.set_again (lo4 p) q n ⟨hn0, hn1⟩).drew
        obtain ⟨w6, h6⟩ : ∃ W : World, W = (((((((((w5.setCell ⟨E, 20, none⟩ (.int .u64 0)).setCell ⟨E, 21, none⟩ (.int .u64 (lo4 p))).setCell ⟨E, 22, none⟩ (.pointer (some z))).setCell ⟨E, 23, none⟩ (.int .u16 q)).setCell ⟨E, 24, none⟩ (.int .u64 (n % 1000000000))).setCell ⟨E, 25, none⟩ (.int .i64 (n / 1000000000))).setCell ⟨E, 26, none⟩ (.pointer none)).setCell ⟨E, 30, none⟩ (.int .i64 0)).setCell ⟨E, 34, none⟩ (.bool false)).drew := ⟨_, rfl⟩
        rw [← h6] at hE6 hH19
        have hT6 := HT5.out.keep hH19 (by simp; omega) (by simp; omega) (by simp; omega)
        have hz5 := HK5.out.size
        have cx := HX5.out.keep hH19 (by simp; omega) (by simp; omega)
        have r6 : roomAt w6 (w.heap.size + 1 + 1) 24 := hH19.room _ 24 (by omega) (by simp; omega) (HK5.out.room _ 24 (by omega) (by simp; omega) HR0.out)
        have yy0 := cx.t0
        have yy1 := cx.t1
        have yy2 := cx.t2
        obtain ⟨e1, d1'⟩ := hT6.k1
        obtain ⟨e2, d2'⟩ := hT6.k2
        obtain ⟨e3, d3'⟩ := hT6.k3
        have f10 := hT6.fK
        have dn5 : ¬ BK = w.heap.size + 1 := by omega
        have dn6 : ¬ w.heap.size + 1 = BK := by omega
        have dn7 : ¬ BK = w.heap.size + 1 + 1 := by omega
        have dn8 : ¬ w.heap.size + 1 + 1 = BK := by omega
        have bz := build49_zero
        have st := st49 zc49 zc49_size zc49_one (w.heap.size + 1 + 1)
        have H6 : Hid (Tab w6 T BS BK s 1 n (.slice (some ⟨ES, 0, none⟩) 1 c) ∧ Ent w6 E A (lo4 p) z q n lq 0 lf ∧ Keep [E] w5 w6) := ⟨hT6, hE6, hH19⟩
        rw [← h6]
        clear h6 hT6 hE6 hH19 hH16 hH13 hH10 hHeld cx g20 g21 g22 g23 g24 g25 g26 c20 c21 c22 c23 c24 c25 c26 c30 c34 fE d zz hz5
        go_wp2_with fail
        have h6 := H6.out
        have d := HD.out
        have zz := HZ.out
        have hz5 := HK5.out.size
        have hT11 := ((h6.1.set_en 1 (.int .u64 (n % 1000000000))).set_en 2 (.int .i64 (n / 1000000000))).set_en 3 (.pointer none)
        rw [if_neg (by decide), if_neg (by decide), if_neg (by decide)] at hT11
        have k11 : Keep [BK] w6 (((w6.setCell ⟨BK, 1, none⟩ (.int .u64 (n % 1000000000))).setCell ⟨BK, 2, none⟩ (.int .i64 (n / 1000000000))).setCell ⟨BK, 3, none⟩ (.pointer none)) := ((Keep.set _ _ _ (by simp)).trans (Keep.set _ _ _ (by simp))).trans (Keep.set _ _ _ (by simp))
        have r11 : roomAt (((w6.setCell ⟨BK, 1, none⟩ (.int .u64 (n % 1000000000))).setCell ⟨BK, 2, none⟩ (.int .i64 (n / 1000000000))).setCell ⟨BK, 3, none⟩ (.pointer none)) (w.heap.size + 1 + 1) 24 := by rw [roomAt_set, roomAt_set, roomAt_set]; exact r6
        obtain ⟨w11, h11⟩ : ∃ W : World, W = ((w6.setCell ⟨BK, 1, none⟩ (.int .u64 (n % 1000000000))).setCell ⟨BK, 2, none⟩ (.int .i64 (n / 1000000000))).setCell ⟨BK, 3, none⟩ (.pointer none) := ⟨_, rfl⟩
        rw [← h11] at hT11 k11 r11
        rw [← h11]
        clear h11
        have k12 := Keep.cells w11 (w.heap.size + 1 + 1) 0 zc49.toList
        have hT12 := hT11.keep k12 (by simp; omega) (by simp; omega) (by simp; omega)
        have l49 := ld49_other zc49 zc49_size (w.heap.size + 1 + 1) w11 ⟨T, 20, none⟩ (.int .i32 0) (by show T ≠ _; omega) r11
        have k23 : Keep [T] (w11.setCells (w.heap.size + 1 + 1) 0 zc49.toList) ((w11.setCells (w.heap.size + 1 + 1) 0 zc49.toList).setCell ⟨T, 20, none⟩ (.int .i32 0)) := Keep.set _ _ _ (by simp)
        refine leaves_cons (f := 18) (args := #[.pointer (some ⟨T, 20, none⟩)]) (by simp) (by simp [go_sem]) ?_
        refine (unlock_deferred muLib ⟨T, 20, none⟩ .returning _ hT12.mu (hT12.fT 20)).mono ?_
        rintro e u' w'' ⟨rfl, rfl, rfl⟩
        refine ⟨.tuple #[.agg zc49, .bool false], ?_, rfl, ⟨lo4 p, q, n, 0, hT12.set_mu 0, ?_, by omega⟩, ?_⟩
        · simp [results, Tryd.results10, go_sem, l49]
        · refine ((h6.2.1.keep k11 ?_).keep k12 ?_).keep k23 ?_
          · simp; omega
          · simp; omega
          · simp; omega
        · refine Keep.trans (Keep.fresh (Keep.trans (Keep.trans ((Keep.ofBelow HB.out).trans (HK5.out.mono ?_)) (h6.2.2.mono ?_)) (k11.mono ?_)) k12 (by omega)) (k23.mono ?_)
          · simp
          · simp
          · simp
          · simp
      · have hb3 : (st == 2) = false := by simpa using hbad
        have HNB : Hid (¬ (3 ≤ f ∧ lf < n)) := fun h => hbad (hs.mpr h)
        clear hs
        have r5 : roomAt w5 (w.heap.size + 1 + 1) 24 := HK5.out.room _ 24 (by have := HZ.out; omega) (by simp; have := HZ.out; omega) HR0.out
        have bz := build49_zero
        have st49' := st49 zc49 zc49_size zc49_one (w.heap.size + 1 + 1)
        go_wp2_with fail
        have d := HD.out
        have zz := HZ.out
        have hz5 := HK5.out.size
        have k12 := Keep.cells w5 (w.heap.size + 1 + 1) 0 zc49.toList
        have hT12 := HT5.out.keep k12 (by simp; omega) (by simp; omega) (by simp; omega)
        have l49 := ld49_other zc49 zc49_size (w.heap.size + 1 + 1) w5 ⟨T, 20, none⟩ (.int .i32 0) (by show T ≠ _; omega) r5
        have k23 : Keep [T] (w5.setCells (w.heap.size + 1 + 1) 0 zc49.toList) ((w5.setCells (w.heap.size + 1 + 1) 0 zc49.toList).setCell ⟨T, 20, none⟩ (.int .i32 0)) := Keep.set _ _ _ (by simp)
        refine leaves_cons (f := 18) (args := #[.pointer (some ⟨T, 20, none⟩)]) (by simp) (by simp [go_sem]) ?_
        refine (unlock_deferred muLib ⟨T, 20, none⟩ .returning _ hT12.mu (hT12.fT 20)).mono ?_
        rintro e u' w'' ⟨rfl, rfl, rfl⟩
        refine ⟨.tuple #[.agg zc49, .bool false], ?_, rfl, ⟨L, q', lr, f, hT12.set_mu 0, ?_, HNB.out⟩, ?_⟩
        · simp [results, Tryd.results10, go_sem, l49]
        · refine (HE5.out.keep k12 ?_).keep k23 ?_
          · simp; omega
          · simp; omega
        · refine Keep.trans (Keep.fresh ((Keep.ofBelow HB.out).trans (HK5.out.mono ?_)) k12 (by omega)) (k23.mono ?_)
          · simp
          · simp

  · have hgt1 : decide (la < n) = false := by simpa using hgt
    have hT3 := HT1.out.below hn (Nat.le_refl _)
    have hK3 := HK1.out.trans (Keep.ofBelow hn)
    have hk12 := Keep.ofBelow (L := [T]) hn
    have zz := HZ.out
    have d := HD.out
    have hX3 := HX1.out.keep hk12 (by simp; omega) (by simp; omega)
    have hkw3 := (Keep.ofBelow (L := [T]) HB.out).trans hK3
    have hE3 := HE.out.keep hkw3 (by simp; omega)
    have es3 := (hkw3.cell ES 0 (by omega) (by simp; omega)).trans HES.out
    have hfind := find_hit T BS BK ES 1 c E s A i 1 la _ hT3 (by decide) es3 hE3.id (by have := hkw3.size; omega) hE3.lt hi
    have i3 := hX3.id
    have HE3 := hidOf hE3
    have HS3 := hidOf es3
    clear hE3 es3 hkw3 d
    have dn1 : ¬ T = w.heap.size := by omega
    have dn2 : ¬ w.heap.size = T := by omega
    go_wp2_with fail
    refine hfind.mono ?_
    rintro e w4 ⟨rfl, hb4⟩
    have HT4 : Hid (Tab w4 T BS BK s 1 la (.slice (some ⟨ES, 0, none⟩) 1 c)) := hT3.below hb4 (Nat.le_refl _)
    have HX4 : Hid (Box w4 w.heap.size (w.heap.size + 1) i (lo4 p) z q n) := hX3.keep (l := []) (Keep.ofBelow hb4) (by simp) (by simp)
    have HK4 : Hid (Keep [T] W0 w4) := hK3.trans (Keep.ofBelow hb4)
    have HE4 : Hid (Ent w4 E A L z q' lr lq f lf) := HE3.out.below hb4 (Nat.le_refl _)
    have es4 : w4.cell? ⟨ES, 0, none⟩ = some (.pointer (some ⟨E, 0, none⟩)) := by rw [hb4.cell (p := ⟨ES, 0, none⟩) (by show ES < _; have := HD.out; have := hK3.size; omega)]; exact HS3.out
    clear hT3 hX3 hK3 hk12 i3 hfind hb4 hn hb rT23 rT24 rT25 y0 y1 y2 fT hS0 haf HT1 HX1 HK1 HE3 HS3 zz
    have en4 := HT4.out.en
    go_wp2_with fail
    clear es4 en4
    have rd : ∀ W, Below w4.heap.size w4 W → Ent W E A L z q' lr lq f lf ∧ Box W w.heap.size (w.heap.size + 1) i (lo4 p) z q n := fun W hb => ⟨HE4.out.below hb (Nat.le_refl _), HX4.out.keep (l := []) (Keep.ofBelow hb) (by simp) (by simp)⟩
    have f20 : ∀ W, Below w4.heap.size w4 W → W.cell? ⟨E, 20, none⟩ = some (.int .u64 0) := fun W hb => (rd W hb).1.c20
    have f21 : ∀ W, Below w4.heap.size w4 W → W.cell? ⟨E, 21, none⟩ = some (.int .u64 L) := fun W hb => (rd W hb).1.c21
    have f22 : ∀ W, Below w4.heap.size w4 W → W.cell? ⟨E, 22, none⟩ = some (.pointer (some z)) := fun W hb => (rd W hb).1.c22
    have f23 : ∀ W, Below w4.heap.size w4 W → W.cell? ⟨E, 23, none⟩ = some (.int .u16 q') := fun W hb => (rd W hb).1.c23
    have g20 : ∀ W, Below w4.heap.size w4 W → W.cell? ⟨w.heap.size, 20, none⟩ = some (.int .u64 0) := fun W hb => (rd W hb).2.a20
    have g21 : ∀ W, Below w4.heap.size w4 W → W.cell? ⟨w.heap.size, 21, none⟩ = some (.int .u64 (lo4 p)) := fun W hb => (rd W hb).2.a21
    have g22 : ∀ W, Below w4.heap.size w4 W → W.cell? ⟨w.heap.size, 22, none⟩ = some (.pointer (some z)) := fun W hb => (rd W hb).2.a22
    have g23 : ∀ W, Below w4.heap.size w4 W → W.cell? ⟨w.heap.size, 23, none⟩ = some (.int .u16 q) := fun W hb => (rd W hb).2.a23
    have g24 : ∀ W, Below w4.heap.size w4 W → W.cell? ⟨w.heap.size + 1, 0, none⟩ = some (.int .u64 (n % 1000000000)) := fun W hb => (rd W hb).2.t0
    have g25 : ∀ W, Below w4.heap.size w4 W → W.cell? ⟨w.heap.size + 1, 1, none⟩ = some (.int .i64 (n / 1000000000)) := fun W hb => (rd W hb).2.t1
    have g26 : ∀ W, Below w4.heap.size w4 W → W.cell? ⟨w.heap.size + 1, 2, none⟩ = some (.pointer none) := fun W hb => (rd W hb).2.t2
    have hst : ∀ W, Below w4.heap.size w4 W → Calls Tryd.prog 21 #[.pointer (some ⟨T, 0, none⟩), .pointer (some ⟨E, 0, none⟩), tm n] W fun e w' => StP (3 ≤ f ∧ lf < la) e ∧ Below W.heap.size W w' := fun W hb => status_any T BS BK E s A 1 la L q' lr lq f lf n z _ W (HT4.out.below hb (Nat.le_refl _)) (rd W hb).1 hn0 hn1
    have HST := hidOf hst
    have q47 := eq47 L (lo4 p) q' q z
    have hS0 : Below w4.heap.size w4 w4 := Below.refl _ _
    clear rd hst
    by_cases hadr : (L == lo4 p && q' == q) = true
    · rw [hadr] at q47
      clear hadr
      have u20 := f20 _ hS0
      have u21 := f21 _ hS0
      have u22 := f22 _ hS0
      have u23 := f23 _ hS0
      have v20 := g20 _ hS0
      have v21 := g21 _ hS0
      have v22 := g22 _ hS0
      have v23 := g23 _ hS0
      clear HST f20 f21 f22 f23 g20 g21 g22 g23 g24 g25 g26
      go_quiet (fail)
      obtain ⟨w5, h5⟩ : ∃ W : World, W = w4.drewN nq := ⟨_, rfl⟩
      have hb5 : Below w4.heap.size w4 w5 := by rw [h5]; exact below_drewN (Below.refl _ _) _
      rw [← h5]
      clear h5 u20 u21 u22 u23 v20 v21 v22 v23 q47 hS0
      have HT5 : Hid (Tab w5 T BS BK s 1 la (.slice (some ⟨ES, 0, none⟩) 1 c)) := HT4.out.below hb5 (Nat.le_refl _)
      have HE5 : Hid (Ent w5 E A L z q' lr lq f lf) := HE4.out.below hb5 (Nat.le_refl _)
      have HX5 : Hid (Box w5 w.heap.size (w.heap.size + 1) i (lo4 p) z q n) := HX4.out.keep (l := []) (Keep.ofBelow hb5) (by simp) (by simp)
      have HK5 : Hid (Keep [T] W0 w5) := HK4.out.trans (Keep.ofBelow hb5)
      clear HT4 HX4 HK4 HE4 hb5
      go_wp2_with fail
      have cx := HX5.out
      have fE := HE5.out.fz
      have d := HD.out
      have zz := HZ.out
      have hz5 := HK5.out.size
      have ncE : w.heap.size ∉ [E] := by simp; omega
      have ntE : w.heap.size + 1 ∉ [E] := by simp; omega
      have g20 : ∀ W, Keep [E] w5 W → W.cell? ⟨w.heap.size, 20, none⟩ = some (.int .u64 0) := fun W hb => (cx.keep hb ncE ntE).a20
      have g21 : ∀ W, Keep [E] w5 W → W.cell? ⟨w.heap.size, 21, none⟩ = some (.int .u64 (lo4 p)) := fun W hb => (cx.keep hb ncE ntE).a21
      have g22 : ∀ W, Keep [E] w5 W → W.cell? ⟨w.heap.size, 22, none⟩ = some (.pointer (some z)) := fun W hb => (cx.keep hb ncE ntE).a22
      have g23 : ∀ W, Keep [E] w5 W → W.cell? ⟨w.heap.size, 23, none⟩ = some (.int .u16 q) := fun W hb => (cx.keep hb ncE ntE).a23
      have g24 : ∀ W, Keep [E] w5 W → W.cell? ⟨w.heap.size + 1, 0, none⟩ = some (.int .u64 (n % 1000000000)) := fun W hb => (cx.keep hb ncE ntE).t0
      have g25 : ∀ W, Keep [E] w5 W → W.cell? ⟨w.heap.size + 1, 1, none⟩ = some (.int .i64 (n / 1000000000)) := fun W hb => (cx.keep hb ncE ntE).t1
      have g26 : ∀ W, Keep [E] w5 W → W.cell? ⟨w.heap.size + 1, 2, none⟩ = some (.pointer none) := fun W hb => (cx.keep hb ncE ntE).t2
      have c20 := HE5.out.c20
      have c21 := HE5.out.c21
      have c22 := HE5.out.c22
      have c23 := HE5.out.c23
      have c24 := HE5.out.c24
      have c25 := HE5.out.c25
      have c26 := HE5.out.c26
      have c30 := HE5.out.c30
      obtain ⟨x34, c34⟩ := HE5.out.c34
      clear cx d zz hz5 ncE ntE
      refine wp_region_noPanic ?_
      refine wp_region_held_drew (S := fun w' => Keep [E] w5 w') (by kernel_rfl) (Keep.ofBelow (Below.refl _ _).drew) (fun hHeld => ?_)
      refine wpAnyH_take (i := 0) (v := ?v0_33) rfl (by kernel_rfl) (by kernel_rfl) (by kernel_rfl) (fun _ _ _ h => h) (Or.inl ⟨by rfl, ?y0_33⟩) (by assumption) ?r0_33
      case y0_33 => intro w hSw; go_simp; try with_reducible rfl
      simp only [List.getElem_toArray, List.getElem_cons_succ, List.getElem_cons_zero, Act.put, List.setIfInBounds_toArray, List.set_cons_zero, List.set_cons_succ]
      refine wpAnyH_take (i := 1) (v := ?v1_34) rfl (by kernel_rfl) (by kernel_rfl) (by kernel_rfl) (fun _ _ _ h => h) (Or.inl ⟨by rfl, ?y1_34⟩) (by assumption) ?r1_34
      case y1_34 => intro w hSw; go_simp; try with_reducible rfl
      simp only [List.getElem_toArray, List.getElem_cons_succ, List.getElem_cons_zero, Act.put, List.setIfInBounds_toArray, List.set_cons_zero, List.set_cons_succ]
      refine wpAnyH_take (i := 2) (v := ?v2_35) rfl (by kernel_rfl) (by kernel_rfl) (by kernel_rfl) (fun _ _ _ h => h) (Or.inl ⟨by rfl, ?y2_35⟩) (by assumption) ?r2_35
      case y2_35 => intro w hSw; go_simp; try with_reducible rfl
      simp only [List.getElem_toArray, List.getElem_cons_succ, List.getElem_cons_zero, Act.put, List.setIfInBounds_toArray, List.set_cons_zero, List.set_cons_succ]
      refine wpAnyH_take (i := 3) (v := ?v3_36) rfl (by kernel_rfl) (by kernel_rfl) (by kernel_rfl) (fun _ _ _ h => h) (Or.inl ⟨by rfl, ?y3_36⟩) (by assumption) ?r3_36
      case y3_36 => intro w hSw; go_simp; try with_reducible rfl
      simp only [List.getElem_toArray, List.getElem_cons_succ, List.getElem_cons_zero, Act.put, List.setIfInBounds_toArray, List.set_cons_zero, List.set_cons_succ]
      refine wpAnyH_take (i := 4) (v := ?v4_37) rfl (by kernel_rfl) (by kernel_rfl) (by kernel_rfl) (fun _ _ _ h => h) (Or.inl ⟨by rfl, ?y4_37⟩) (by assumption) ?r4_37
      case y4_37 => intro w hSw; go_simp; try with_reducible rfl
      simp only [List.getElem_toArray, List.getElem_cons_succ, List.getElem_cons_zero, Act.put, List.setIfInBounds_toArray, List.set_cons_zero, List.set_cons_succ]
      refine wpAnyH_take (i := 5) (v := ?v5_38) rfl (by kernel_rfl) (by kernel_rfl) (by kernel_rfl) (fun _ _ _ h => h) (Or.inl ⟨by rfl, ?y5_38⟩) (by assumption) ?r5_38
      case y5_38 => intro w hSw; go_simp; try with_reducible rfl
      simp only [List.getElem_toArray, List.getElem_cons_succ, List.getElem_cons_zero, Act.put, List.setIfInBounds_toArray, List.set_cons_zero, List.set_cons_succ]
      refine wpAnyH_take (i := 6) (v := ?v6_39) rfl (by kernel_rfl) (by kernel_rfl) (by kernel_rfl) (fun _ _ _ h => h) (Or.inl ⟨by rfl, ?y6_39⟩) (by assumption) ?r6_39
      case y6_39 => intro w hSw; go_simp; try with_reducible rfl
      simp only [List.getElem_toArray, List.getElem_cons_succ, List.getElem_cons_zero, Act.put, List.setIfInBounds_toArray, List.set_cons_zero, List.set_cons_succ]
      refine wpAnyH_take (i := 7) (v := ?v7_40) rfl (by kernel_rfl) (by kernel_rfl) (by kernel_rfl) (fun _ _ _ h => h) (Or.inl ⟨by rfl, ?y7_40⟩) (by assumption) ?r7_40
      case y7_40 => intro w hSw; go_simp; try with_reducible rfl
      simp only [List.getElem_toArray, List.getElem_cons_succ, List.getElem_cons_zero, Act.put, List.setIfInBounds_toArray, List.set_cons_zero, List.set_cons_succ]
      refine wpAnyH_take (i := 8) (v := ?v8_41) rfl (by kernel_rfl) (by kernel_rfl) (by kernel_rfl) (fun _ _ _ h => h) (Or.inl ⟨by rfl, ?y8_41⟩) (by assumption) ?r8_41
      case y8_41 => intro w hSw; go_simp; try with_reducible rfl
      simp only [List.getElem_toArray, List.getElem_cons_succ, List.getElem_cons_zero, Act.put, List.setIfInBounds_toArray, List.set_cons_zero, List.set_cons_succ]
      refine wpAnyH_take (i := 9) (v := ?v9_42) rfl (by kernel_rfl) (by kernel_rfl) (by kernel_rfl) (fun _ _ _ h => h) (Or.inl ⟨by rfl, ?y9_42⟩) (by assumption) ?r9_42
      case y9_42 => intro w hSw; go_simp; try with_reducible rfl
      simp only [List.getElem_toArray, List.getElem_cons_succ, List.getElem_cons_zero, Act.put, List.setIfInBounds_toArray, List.set_cons_zero, List.set_cons_succ]
      refine wpAnyH_ready (rs := [10]) (by kernel_rfl) (by simp) ?_
      refine AllReadyH.cons rfl (fun K hK => ?_) AllReadyH.nil
      go_simp
      refine hK.out _ _ ((((((Keep.refl [E] w5).trans (Keep.set _ _ _ (by simp))).trans (Keep.set _ _ _ (by simp))).trans (Keep.set _ _ _ (by simp))).trans (Keep.set _ _ _ (by simp))).trans (Keep.ofBelow (Below.refl _ _).drew)) (fun hH10 => ?_)
      clear hK K
      refine wpAnyH_take (i := 11) (v := ?v11_43) rfl (by kernel_rfl) (by kernel_rfl) (by kernel_rfl) (fun _ _ _ h => h) (Or.inl ⟨by rfl, ?y11_43⟩) (by assumption) ?r11_43
      case y11_43 => intro w hSw; go_simp; try with_reducible rfl
      simp only [List.getElem_toArray, List.getElem_cons_succ, List.getElem_cons_zero, Act.put, List.setIfInBounds_toArray, List.set_cons_zero, List.set_cons_succ]
      refine wpAnyH_take (i := 12) (v := ?v12_44) rfl (by kernel_rfl) (by kernel_rfl) (by kernel_rfl) (fun _ _ _ h => h) (Or.inl ⟨by rfl, ?y12_44⟩) (by assumption) ?r12_44
      case y12_44 => intro w hSw; go_simp; try with_reducible rfl
      simp only [List.getElem_toArray, List.getElem_cons_succ, List.getElem_cons_zero, Act.put, List.setIfInBounds_toArray, List.set_cons_zero, List.set_cons_succ]
      refine wpAnyH_ready (rs := [13]) (by kernel_rfl) (by simp) ?_
      refine AllReadyH.cons rfl (fun K hK => ?_) AllReadyH.nil
      go_simp
      refine hK.out _ _ (((((((((Keep.refl [E] w5).trans (Keep.set _ _ _ (by simp))).trans (Keep.set _ _ _ (by simp))).trans (Keep.set _ _ _ (by simp))).trans (Keep.set _ _ _ (by simp))).trans (Keep.set _ _ _ (by simp))).trans (Keep.set _ _ _ (by simp))).trans (Keep.set _ _ _ (by simp))).trans (Keep.ofBelow (Below.refl _ _).drew)) (fun hH13 => ?_)
      clear hK K
      refine wpAnyH_take (i := 14) (v := ?v14_45) rfl (by kernel_rfl) (by kernel_rfl) (by kernel_rfl) (fun _ _ _ h => h) (Or.inl ⟨by rfl, ?y14_45⟩) (by assumption) ?r14_45
      case y14_45 => intro w hSw; go_simp; try with_reducible rfl
      simp only [List.getElem_toArray, List.getElem_cons_succ, List.getElem_cons_zero, Act.put, List.setIfInBounds_toArray, List.set_cons_zero, List.set_cons_succ]
      refine wpAnyH_take (i := 15) (v := ?v15_46) rfl (by kernel_rfl) (by kernel_rfl) (by kernel_rfl) (fun _ _ _ h => h) (Or.inl ⟨by rfl, ?y15_46⟩) (by assumption) ?r15_46
      case y15_46 => intro w hSw; go_simp; try with_reducible rfl
      simp only [List.getElem_toArray, List.getElem_cons_succ, List.getElem_cons_zero, Act.put, List.setIfInBounds_toArray, List.set_cons_zero, List.set_cons_succ]
      refine wpAnyH_ready (rs := [16]) (by kernel_rfl) (by simp) ?_
      refine AllReadyH.cons rfl (fun K hK => ?_) AllReadyH.nil
      go_simp
      refine hK.out _ _ ((((((((((Keep.refl [E] w5).trans (Keep.set _ _ _ (by simp))).trans (Keep.set _ _ _ (by simp))).trans (Keep.set _ _ _ (by simp))).trans (Keep.set _ _ _ (by simp))).trans (Keep.set _ _ _ (by simp))).trans (Keep.set _ _ _ (by simp))).trans (Keep.set _ _ _ (by simp))).trans (Keep.set _ _ _ (by simp))).trans (Keep.ofBelow (Below.refl _ _).drew)) (fun hH16 => ?_)
      clear hK K
      refine wpAnyH_take (i := 17) (v := ?v17_47) rfl (by kernel_rfl) (by kernel_rfl) (by kernel_rfl) (fun _ _ _ h => h) (Or.inl ⟨by rfl, ?y17_47⟩) (by assumption) ?r17_47
      case y17_47 => intro w hSw; go_simp; try with_reducible rfl
      simp only [List.getElem_toArray, List.getElem_cons_succ, List.getElem_cons_zero, Act.put, List.setIfInBounds_toArray, List.set_cons_zero, List.set_cons_succ]
      refine wpAnyH_take (i := 18) (v := ?v18_48) rfl (by kernel_rfl) (by kernel_rfl) (by kernel_rfl) (fun _ _ _ h => h) (Or.inl ⟨by rfl, ?y18_48⟩) (by assumption) ?r18_48
      case y18_48 => intro w hSw; go_simp; try with_reducible rfl
      simp only [List.getElem_toArray, List.getElem_cons_succ, List.getElem_cons_zero, Act.put, List.setIfInBounds_toArray, List.set_cons_zero, List.set_cons_succ]
      refine wpAnyH_ready (rs := [19]) (by kernel_rfl) (by simp) ?_
      refine AllReadyH.cons rfl (fun K hK => ?_) AllReadyH.nil
      go_simp
      refine hK.out _ _ (((((((((((Keep.refl [E] w5).trans (Keep.set _ _ _ (by simp))).trans (Keep.set _ _ _ (by simp))).trans (Keep.set _ _ _ (by simp))).trans (Keep.set _ _ _ (by simp))).trans (Keep.set _ _ _ (by simp))).trans (Keep.set _ _ _ (by simp))).trans (Keep.set _ _ _ (by simp))).trans (Keep.set _ _ _ (by simp))).trans (Keep.set _ _ _ (by simp))).trans (Keep.ofBelow (Below.refl _ _).drew)) (fun hH19 => ?_)
      clear hK K
      refine wpAnyH_done (by kernel_rfl) ?_ _
      refine NoPanic.normal ?_
      have d := HD.out
      have zz := HZ.out
      have hE6 := (HE5.out.set_again (lo4 p) q n ⟨hn0, hn1⟩).drew
      obtain ⟨w6, h6⟩ : ∃ W : World, W = (((((((((w5.setCell ⟨E, 20, none⟩ (.int .u64 0)).setCell ⟨E, 21, none⟩ (.int .u64 (lo4 p))).setCell ⟨E, 22, none⟩ (.pointer (some z))).setCell ⟨E, 23, none⟩ (.int .u16 q)).setCell ⟨E, 24, none⟩ (.int .u64 (n % 1000000000))).setCell ⟨E, 25, none⟩ (.int .i64 (n / 1000000000))).setCell ⟨E, 26, none⟩ (.pointer none)).setCell ⟨E, 30, none⟩ (.int .i64 0)).setCell ⟨E, 34, none⟩ (.bool false)).drew := ⟨_, rfl⟩
      rw [← h6] at hE6 hH19
      have hT6 := HT5.out.keep hH19 (by simp; omega) (by simp; omega) (by simp; omega)
      have hz5 := HK5.out.size
      have cx := HX5.out.keep hH19 (by simp; omega) (by simp; omega)
      have r6 : roomAt w6 (w.heap.size + 1 + 1) 24 := hH19.room _ 24 (by omega) (by simp; omega) (HK5.out.room _ 24 (by omega) (by simp; omega) HR0.out)
      have yy0 := cx.t0
      have yy1 := cx.t1
      have yy2 := cx.t2
      obtain ⟨e1, d1'⟩ := hT6.k1
      obtain ⟨e2, d2'⟩ := hT6.k2
      obtain ⟨e3, d3'⟩ := hT6.k3
      have f10 := hT6.fK
      have dn5 : ¬ BK = w.heap.size + 1 := by omega
      have dn6 : ¬ w.heap.size + 1 = BK := by omega
      have dn7 : ¬ BK = w.heap.size + 1 + 1 := by omega
      have dn8 : ¬ w.heap.size + 1 + 1 = BK := by omega
      have bz := build49_zero
      have st := st49 zc49 zc49_size zc49_one (w.heap.size + 1 + 1)
      have H6 : Hid (Tab w6 T BS BK s 1 la (.slice (some ⟨ES, 0, none⟩) 1 c) ∧ Ent w6 E A (lo4 p) z q n lq 0 lf ∧ Keep [E] w5 w6) := ⟨hT6, hE6, hH19⟩
      rw [← h6]
      clear h6 hT6 hE6 hH19 hH16 hH13 hH10 hHeld cx g20 g21 g22 g23 g24 g25 g26 c20 c21 c22 c23 c24 c25 c26 c30 c34 fE d zz hz5
      go_wp2_with fail
      have h6 := H6.out
      have d := HD.out
      have zz := HZ.out
      have hz5 := HK5.out.size
      have hT11 := ((h6.1.set_en 1 (.int .u64 (n % 1000000000))).set_en 2 (.int .i64 (n / 1000000000))).set_en 3 (.pointer none)
      rw [if_neg (by decide), if_neg (by decide), if_neg (by decide)] at hT11
      have k11 : Keep [BK] w6 (((w6.setCell ⟨BK, 1, none⟩ (.int .u64 (n % 1000000000))).setCell ⟨BK, 2, none⟩ (.int .i64 (n / 1000000000))).setCell ⟨BK, 3, none⟩ (.pointer none)) := ((Keep.set _ _ _ (by simp)).trans (Keep.set _ _ _ (by simp))).trans (Keep.set _ _ _ (by simp))
      have r11 : roomAt (((w6.setCell ⟨BK, 1, none⟩ (.int .u64 (n % 1000000000))).setCell ⟨BK, 2, none⟩ (.int .i64 (n / 1000000000))).setCell ⟨BK, 3, none⟩ (.pointer none)) (w.heap.size + 1 + 1) 24 := by rw [roomAt_set, roomAt_set, roomAt_set]; exact r6
      obtain ⟨w11, h11⟩ : ∃ W : World, W = ((w6.setCell ⟨BK, 1, none⟩ (.int .u64 (n % 1000000000))).setCell ⟨BK, 2, none⟩ (.int .i64 (n / 1000000000))).setCell ⟨BK, 3, none⟩ (.pointer none) := ⟨_, rfl⟩
      rw [← h11] at hT11 k11 r11
      rw [← h11]
      clear h11
      have k12 := Keep.cells w11 (w.heap.size + 1 + 1) 0 zc49.toList
      have hT12 := hT11.keep k12 (by simp; omega) (by simp; omega) (by simp; omega)
      have l49 := ld49_other zc49 zc49_size (w.heap.size + 1 + 1) w11 ⟨T, 20, none⟩ (.int .i32 0) (by show T ≠ _; omega) r11
      have k23 : Keep [T] (w11.setCells (w.heap.size + 1 + 1) 0 zc49.toList) ((w11.setCells (w.heap.size + 1 + 1) 0 zc49.toList).setCell ⟨T, 20, none⟩ (.int .i32 0)) := Keep.set _ _ _ (by simp)
      refine leaves_cons (f := 18) (args := #[.pointer (some ⟨T, 20, none⟩)]) (by simp) (by simp [go_sem]) ?_
      refine (unlock_deferred muLib ⟨T, 20, none⟩ .returning _ hT12.mu (hT12.fT 20)).mono ?_
      rintro e u' w'' ⟨rfl, rfl, rfl⟩
      refine ⟨.tuple #[.agg zc49, .bool false], ?_, rfl, ⟨lo4 p, q, n, 0, hT12.set_mu 0, ?_, by omega⟩, ?_⟩
      · simp [results, Tryd.results10, go_sem, l49]
      · refine ((h6.2.1.keep k11 ?_).keep k12 ?_).keep k23 ?_
        · simp; omega
        · simp; omega
        · simp; omega
      · refine Keep.trans (Keep.fresh (Keep.trans (Keep.trans ((Keep.ofBelow HB.out).trans (HK5.out.mono ?_)) (h6.2.2.mono ?_)) (k11.mono ?_)) k12 (by omega)) (k23.mono ?_)
        · simp
        · simp
        · simp
        · simp
    · have hadr' : (L == lo4 p && q' == q) = false := by simpa using hadr
      rw [hadr'] at q47
      clear hadr hadr'
      unfold tm at HST
      go_region_held3 (fun w' => Below w4.heap.size w4 w') (first | assumption | exact Below.drew (by assumption)) (first | (go_at_call 21; refine (HST.out _ (by assumption)).mono ?_; rintro e w5 ⟨⟨st, rfl, hs⟩, hb⟩; have hb5 := below_step (by assumption) (Nat.le_refl _) hb))
      clear f20 f21 f22 f23 g20 g21 g22 g23 g24 g25 g26 q47 hS0 HST hb
      have HT5 : Hid (Tab w5 T BS BK s 1 la (.slice (some ⟨ES, 0, none⟩) 1 c)) := HT4.out.below hb5 (Nat.le_refl _)
      have HE5 : Hid (Ent w5 E A L z q' lr lq f lf) := HE4.out.below hb5 (Nat.le_refl _)
      have HX5 : Hid (Box w5 w.heap.size (w.heap.size + 1) i (lo4 p) z q n) := HX4.out.keep (l := []) (Keep.ofBelow hb5) (by simp) (by simp)
      have HK5 : Hid (Keep [T] W0 w5) := HK4.out.trans (Keep.ofBelow hb5)
      clear HT4 HX4 HK4 HE4 hb5
      by_cases hbad : st = 2
      · subst hbad
        clear hs
        go_wp2_with fail
        have cx := HX5.out
        have fE := HE5.out.fz
        have d := HD.out
        have zz := HZ.out
        have hz5 := HK5.out.size
        have ncE : w.heap.size ∉ [E] := by simp; omega
        have ntE : w.heap.size + 1 ∉ [E] := by simp; omega
        have g20 : ∀ W, Keep [E] w5 W → W.cell? ⟨w.heap.size, 20, none⟩ = some (.int .u64 0) := fun W hb => (cx.keep hb ncE ntE).a20
        have g21 : ∀ W, Keep [E] w5 W → W.cell? ⟨w.heap.size, 21, none⟩ = some (.int .u64 (lo4 p)) := fun W hb => (cx.keep hb ncE ntE).a21
        have g22 : ∀ W, Keep [E] w5 W → W.cell? ⟨w.heap.size, 22, none⟩ = some (.pointer (some z)) := fun W hb => (cx.keep hb ncE ntE).a22
        have g23 : ∀ W, Keep [E] w5 W → W.cell? ⟨w.heap.size, 23, none⟩ = some (.int .u16 q) := fun W hb => (cx.keep hb ncE ntE).a23
        have g24 : ∀ W, Keep [E] w5 W → W.cell? ⟨w.heap.size + 1, 0, none⟩ = some (.int .u64 (n % 1000000000)) := fun W hb => (cx.keep hb ncE ntE).t0
        have g25 : ∀ W, Keep [E] w5 W → W.cell? ⟨w.heap.size + 1, 1, none⟩ = some (.int .i64 (n / 1000000000)) := fun W hb => (cx.keep hb ncE ntE).t1
        have g26 : ∀ W, Keep [E] w5 W → W.cell? ⟨w.heap.size + 1, 2, none⟩ = some (.pointer none) := fun W hb => (cx.keep hb ncE ntE).t2
        have c20 := HE5.out.c20
        have c21 := HE5.out.c21
        have c22 := HE5.out.c22
        have c23 := HE5.out.c23
        have c24 := HE5.out.c24
        have c25 := HE5.out.c25
        have c26 := HE5.out.c26
        have c30 := HE5.out.c30
        obtain ⟨x34, c34⟩ := HE5.out.c34
        clear cx d zz hz5 ncE ntE
        refine wp_region_noPanic ?_
        refine wp_region_held_drew (S := fun w' => Keep [E] w5 w') (by kernel_rfl) (Keep.ofBelow (Below.refl _ _).drew) (fun hHeld => ?_)
        refine wpAnyH_take (i := 0) (v := ?v0_49) rfl (by kernel_rfl) (by kernel_rfl) (by kernel_rfl) (fun _ _ _ h => h) (Or.inl ⟨by rfl, ?y0_49⟩) (by assumption) ?r0_49
        case y0_49 => intro w hSw; go_simp; try with_reducible rfl
        simp only [List.getElem_toArray, List.getElem_cons_succ, List.getElem_cons_zero, Act.put, List.setIfInBounds_toArray, List.set_cons_zero, List.set_cons_succ]
        refine wpAnyH_take (i := 1) (v := ?v1_50) rfl (by kernel_rfl) (by kernel_rfl) (by kernel_rfl) (fun _ _ _ h => h) (Or.inl ⟨by rfl, ?y1_50⟩) (by assumption) ?r1_50
        case y1_50 => intro w hSw; go_simp; try with_reducible rfl
        simp only [List.getElem_toArray, List.getElem_cons_succ, List.getElem_cons_zero, Act.put, List.setIfInBounds_toArray, List.set_cons_zero, List.set_cons_succ]
        refine wpAnyH_take (i := 2) (v := ?v2_51) rfl (by kernel_rfl) (by kernel_rfl) (by kernel_rfl) (fun _ _ _ h => h) (Or.inl ⟨by rfl, ?y2_51⟩) (by assumption) ?r2_51
        case y2_51 => intro w hSw; go_simp; try with_reducible rfl
        simp only [List.getElem_toArray, List.getElem_cons_succ, List.getElem_cons_zero, Act.put, List.setIfInBounds_toArray, List.set_cons_zero, List.set_cons_succ]
        refine wpAnyH_take (i := 3) (v := ?v3_52) rfl (by kernel_rfl) (by kernel_rfl) (by kernel_rfl) (fun _ _ _ h => h) (Or.inl ⟨by rfl, ?y3_52⟩) (by assumption) ?r3_52
        case y3_52 => intro w hSw; go_simp; try with_reducible rfl
        simp only [List.getElem_toArray, List.getElem_cons_succ, List.getElem_cons_zero, Act.put, List.setIfInBounds_toArray, List.set_cons_zero, List.set_cons_succ]
        refine wpAnyH_take (i := 4) (v := ?v4_53) rfl (by kernel_rfl) (by kernel_rfl) (by kernel_rfl) (fun _ _ _ h => h) (Or.inl ⟨by rfl, ?y4_53⟩) (by assumption) ?r4_53
        case y4_53 => intro w hSw; go_simp; try with_reducible rfl
        simp only [List.getElem_toArray, List.getElem_cons_succ, List.getElem_cons_zero, Act.put, List.setIfInBounds_toArray, List.set_cons_zero, List.set_cons_succ]
        refine wpAnyH_take (i := 5) (v := ?v5_54) rfl (by kernel_rfl) (by kernel_rfl) (by kernel_rfl) (fun _ _ _ h => h) (Or.inl ⟨by rfl, ?y5_54⟩) (by assumption) ?r5_54
        case y5_54 => intro w hSw; go_simp; try with_reducible rfl
        simp only [List.getElem_toArray, List.getElem_cons_succ, List.getElem_cons_zero, Act.put, List.setIfInBounds_toArray, List.set_cons_zero, List.set_cons_succ]
        refine wpAnyH_take (i := 6) (v := ?v6_55) rfl (by kernel_rfl) (by kernel_rfl) (by kernel_rfl) (fun _ _ _ h => h) (Or.inl ⟨by rfl, ?y6_55⟩) (by assumption) ?r6_55
        case y6_55 => intro w hSw; go_simp; try with_reducible rfl
        simp only [List.getElem_toArray, List.getElem_cons_succ, List.getElem_cons_zero, Act.put, List.setIfInBounds_toArray, List.set_cons_zero, List.set_cons_succ]
        refine wpAnyH_take (i := 7) (v := ?v7_56) rfl (by kernel_rfl) (by kernel_rfl) (by kernel_rfl) (fun _ _ _ h => h) (Or.inl ⟨by rfl, ?y7_56⟩) (by assumption) ?r7_56
        case y7_56 => intro w hSw; go_simp; try with_reducible rfl
        simp only [List.getElem_toArray, List.getElem_cons_succ, List.getElem_cons_zero, Act.put, List.setIfInBounds_toArray, List.set_cons_zero, List.set_cons_succ]
        refine wpAnyH_take (i := 8) (v := ?v8_57) rfl (by kernel_rfl) (by kernel_rfl) (by kernel_rfl) (fun _ _ _ h => h) (Or.inl ⟨by rfl, ?y8_57⟩) (by assumption) ?r8_57
        case y8_57 => intro w hSw; go_simp; try with_reducible rfl
        simp only [List.getElem_toArray, List.getElem_cons_succ, List.getElem_cons_zero, Act.put, List.setIfInBounds_toArray, List.set_cons_zero, List.set_cons_succ]
        refine wpAnyH_take (i := 9) (v := ?v9_58) rfl (by kernel_rfl) (by kernel_rfl) (by kernel_rfl) (fun _ _ _ h => h) (Or.inl ⟨by rfl, ?y9_58⟩) (by assumption) ?r9_58
        case y9_58 => intro w hSw; go_simp; try with_reducible rfl
        simp only [List.getElem_toArray, List.getElem_cons_succ, List.getElem_cons_zero, Act.put, List.setIfInBounds_toArray, List.set_cons_zero, List.set_cons_succ]
        refine wpAnyH_ready (rs := [10]) (by kernel_rfl) (by simp) ?_
        refine AllReadyH.cons rfl (fun K hK => ?_) AllReadyH.nil
        go_simp
        refine hK.out _ _ ((((((Keep.refl [E] w5).trans (Keep.set _ _ _ (by simp))).trans (Keep.set _ _ _ (by simp))).trans (Keep.set _ _ _ (by simp))).trans (Keep.set _ _ _ (by simp))).trans (Keep.ofBelow (Below.refl _ _).drew)) (fun hH10 => ?_)
        clear hK K
        refine wpAnyH_take (i := 11) (v := ?v11_59) rfl (by kernel_rfl) (by kernel_rfl) (by kernel_rfl) (fun _ _ _ h => h) (Or.inl ⟨by rfl, ?y11_59⟩) (by assumption) ?r11_59
        case y11_59 => intro w hSw; go_simp; try with_reducible rfl
        simp only [List.getElem_toArray, List.getElem_cons_succ, List.getElem_cons_zero, Act.put, List.setIfInBounds_toArray, List.set_cons_zero, List.set_cons_succ]
        refine wpAnyH_take (i := 12) (v := ?v12_60) rfl (by kernel_rfl) (by kernel_rfl) (by kernel_rfl) (fun _ _ _ h => h) (Or.inl ⟨by rfl, ?y12_60⟩) (by assumption) ?r12_60
        case y12_60 => intro w hSw; go_simp; try with_reducible rfl
        simp only [List.getElem_toArray, List.getElem_cons_succ, List.getElem_cons_zero, Act.put, List.setIfInBounds_toArray, List.set_cons_zero, List.set_cons_succ]
        refine wpAnyH_ready (rs := [13]) (by kernel_rfl) (by simp) ?_
        refine AllReadyH.cons rfl (fun K hK => ?_) AllReadyH.nil
        go_simp
        refine hK.out _ _ (((((((((Keep.refl [E] w5).trans (Keep.set _ _ _ (by simp))).trans (Keep.set _ _ _ (by simp))).trans (Keep.set _ _ _ (by simp))).trans (Keep.set _ _ _ (by simp))).trans (Keep.set _ _ _ (by simp))).trans (Keep.set _ _ _ (by simp))).trans (Keep.set _ _ _ (by simp))).trans (Keep.ofBelow (Below.refl _ _).drew)) (fun hH13 => ?_)
        clear hK K
        refine wpAnyH_take (i := 14) (v := ?v14_61) rfl (by kernel_rfl) (by kernel_rfl) (by kernel_rfl) (fun _ _ _ h => h) (Or.inl ⟨by rfl, ?y14_61⟩) (by assumption) ?r14_61
        case y14_61 => intro w hSw; go_simp; try with_reducible rfl
        simp only [List.getElem_toArray, List.getElem_cons_succ, List.getElem_cons_zero, Act.put, List.setIfInBounds_toArray, List.set_cons_zero, List.set_cons_succ]
        refine wpAnyH_take (i := 15) (v := ?v15_62) rfl (by kernel_rfl) (by kernel_rfl) (by kernel_rfl) (fun _ _ _ h => h) (Or.inl ⟨by rfl, ?y15_62⟩) (by assumption) ?r15_62
        case y15_62 => intro w hSw; go_simp; try with_reducible rfl
        simp only [List.getElem_toArray, List.getElem_cons_succ, List.getElem_cons_zero, Act.put, List.setIfInBounds_toArray, List.set_cons_zero, List.set_cons_succ]
        refine wpAnyH_ready (rs := [16]) (by kernel_rfl) (by simp) ?_
        refine AllReadyH.cons rfl (fun K hK => ?_) AllReadyH.nil
        go_simp
        refine hK.out _ _ ((((((((((Keep.refl [E] w5).trans (Keep.set _ _ _ (by simp))).trans (Keep.set _ _ _ (by simp))).trans (Keep.set _ _ _ (by simp))).trans (Keep.set _ _ _ (by simp))).trans (Keep.set _ _ _ (by simp))).trans (Keep.set _ _ _ (by simp))).trans (Keep.set _ _ _ (by simp))).trans (Keep.set _ _ _ (by simp))).trans (Keep.ofBelow (Below.refl _ _).drew)) (fun hH16 => ?_)
        clear hK K
        refine wpAnyH_take (i := 17) (v := ?v17_63) rfl (by kernel_rfl) (by kernel_rfl) (by kernel_rfl) (fun _ _ _ h => h) (Or.inl ⟨by rfl, ?y17_63⟩) (by assumption) ?r17_63
        case y17_63 => intro w hSw; go_simp; try with_reducible rfl
        simp only [List.getElem_toArray, List.getElem_cons_succ, List.getElem_cons_zero, Act.put, List.setIfInBounds_toArray, List.set_cons_zero, List.set_cons_succ]
        refine wpAnyH_take (i := 18) (v := ?v18_64) rfl (by kernel_rfl) (by kernel_rfl) (by kernel_rfl) (fun _ _ _ h => h) (Or.inl ⟨by rfl, ?y18_64⟩) (by assumption) ?r18_64
        case y18_64 => intro w hSw; go_simp; try with_reducible rfl
        simp only [List.getElem_toArray, List.getElem_cons_succ, List.getElem_cons_zero, Act.put, List.setIfInBounds_toArray, List.set_cons_zero, List.set_cons_succ]
        refine wpAnyH_ready (rs := [19]) (by kernel_rfl) (by simp) ?_
        refine AllReadyH.cons rfl (fun K hK => ?_) AllReadyH.nil
        go_simp
        refine hK.out _ _ (((((((((((Keep.refl [E] w5).trans (Keep.set _ _ _ (by simp))).trans (Keep.set _ _ _ (by simp))).trans (Keep.set _ _ _ (by simp))).trans (Keep.set _ _ _ (by simp))).trans (Keep.set _ _ _ (by simp))).trans (Keep.set _ _ _ (by simp))).trans (Keep.set _ _ _ (by simp))).trans (Keep.set _ _ _ (by simp))).trans (Keep.set _ _ _ (by simp))).trans (Keep.ofBelow (Below.refl _ _).drew)) (fun hH19 => ?_)
        clear hK K
        refine wpAnyH_done (by kernel_rfl) ?_ _
        refine NoPanic.normal ?_
        have d := HD.out
        have zz := HZ.out
        have hE6 := (HE5.out.set_again (lo4 p) q n ⟨hn0, hn1⟩).drew
        obtain ⟨w6, h6⟩ : ∃ W : World, W = (((((((((w5.setCell ⟨E, 20, none⟩ (.int .u64 0)).setCell ⟨E, 21, none⟩ (.int .u64 (lo4 p))).setCell ⟨E, 22, none⟩ (.pointer (some z))).setCell ⟨E, 23, none⟩ (.int .u16 q)).setCell ⟨E, 24, none⟩ (.int .u64 (n % 1000000000))).setCell ⟨E, 25, none⟩ (.int .i64 (n / 1000000000))).setCell ⟨E, 26, none⟩ (.pointer none)).setCell ⟨E, 30, none⟩ (.int .i64 0)).setCell ⟨E, 34, none⟩ (.bool false)).drew := ⟨_, rfl⟩
        rw [← h6] at hE6 hH19
        have hT6 := HT5.out.keep hH19 (by simp; omega) (by simp; omega) (by simp; omega)
        have hz5 := HK5.out.size
        have cx := HX5.out.keep hH19 (by simp; omega) (by simp; omega)
        have r6 : roomAt w6 (w.heap.size + 1 + 1) 24 := hH19.room _ 24 (by omega) (by simp; omega) (HK5.out.room _ 24 (by omega) (by simp; omega) HR0.out)
        have yy0 := cx.t0
        have yy1 := cx.t1
        have yy2 := cx.t2
        obtain ⟨e1, d1'⟩ := hT6.k1
        obtain ⟨e2, d2'⟩ := hT6.k2
        obtain ⟨e3, d3'⟩ := hT6.k3
        have f10 := hT6.fK
        have dn5 : ¬ BK = w.heap.size + 1 := by omega
        have dn6 : ¬ w.heap.size + 1 = BK := by omega
        have dn7 : ¬ BK = w.heap.size + 1 + 1 := by omega
        have dn8 : ¬ w.heap.size + 1 + 1 = BK := by omega
        have bz := build49_zero
        have st := st49 zc49 zc49_size zc49_one (w.heap.size + 1 + 1)
        have H6 : Hid (Tab w6 T BS BK s 1 la (.slice (some ⟨ES, 0, none⟩) 1 c) ∧ Ent w6 E A (lo4 p) z q n lq 0 lf ∧ Keep [E] w5 w6) := ⟨hT6, hE6, hH19⟩
        rw [← h6]
        clear h6 hT6 hE6 hH19 hH16 hH13 hH10 hHeld cx g20 g21 g22 g23 g24 g25 g26 c20 c21 c22 c23 c24 c25 c26 c30 c34 fE d zz hz5
        go_wp2_with fail
        have h6 := H6.out
        have d := HD.out
        have zz := HZ.out
        have hz5 := HK5.out.size
        have hT11 := ((h6.1.set_en 1 (.int .u64 (n % 1000000000))).set_en 2 (.int .i64 (n / 1000000000))).set_en 3 (.pointer none)
        rw [if_neg (by decide), if_neg (by decide), if_neg (by decide)] at hT11
        have k11 : Keep [BK] w6 (((w6.setCell ⟨BK, 1, none⟩ (.int .u64 (n % 1000000000))).setCell ⟨BK, 2, none⟩ (.int .i64 (n / 1000000000))).setCell ⟨BK, 3, none⟩ (.pointer none)) := ((Keep.set _ _ _ (by simp)).trans (Keep.set _ _ _ (by simp))).trans (Keep.set _ _ _ (by simp))
        have r11 : roomAt (((w6.setCell ⟨BK, 1, none⟩ (.int .u64 (n % 1000000000))).setCell ⟨BK, 2, none⟩ (.int .i64 (n / 1000000000))).setCell ⟨BK, 3, none⟩ (.pointer none)) (w.heap.size + 1 + 1) 24 := by rw [roomAt_set, roomAt_set, roomAt_set]; exact r6
        obtain ⟨w11, h11⟩ : ∃ W : World, W = ((w6.setCell ⟨BK, 1, none⟩ (.int .u64 (n % 1000000000))).setCell ⟨BK, 2, none⟩ (.int .i64 (n / 1000000000))).setCell ⟨BK, 3, none⟩ (.pointer none) := ⟨_, rfl⟩
        rw [← h11] at hT11 k11 r11
        rw [← h11]
        clear h11
        have k12 := Keep.cells w11 (w.heap.size + 1 + 1) 0 zc49.toList
        have hT12 := hT11.keep k12 (by simp; omega) (by simp; omega) (by simp; omega)
        have l49 := ld49_other zc49 zc49_size (w.heap.size + 1 + 1) w11 ⟨T, 20, none⟩ (.int .i32 0) (by show T ≠ _; omega) r11
        have k23 : Keep [T] (w11.setCells (w.heap.size + 1 + 1) 0 zc49.toList) ((w11.setCells (w.heap.size + 1 + 1) 0 zc49.toList).setCell ⟨T, 20, none⟩ (.int .i32 0)) := Keep.set _ _ _ (by simp)
        refine leaves_cons (f := 18) (args := #[.pointer (some ⟨T, 20, none⟩)]) (by simp) (by simp [go_sem]) ?_
        refine (unlock_deferred muLib ⟨T, 20, none⟩ .returning _ hT12.mu (hT12.fT 20)).mono ?_
        rintro e u' w'' ⟨rfl, rfl, rfl⟩
        refine ⟨.tuple #[.agg zc49, .bool false], ?_, rfl, ⟨lo4 p, q, n, 0, hT12.set_mu 0, ?_, by omega⟩, ?_⟩
        · simp [results, Tryd.results10, go_sem, l49]
        · refine ((h6.2.1.keep k11 ?_).keep k12 ?_).keep k23 ?_
          · simp; omega
          · simp; omega
          · simp; omega
        · refine Keep.trans (Keep.fresh (Keep.trans (Keep.trans ((Keep.ofBelow HB.out).trans (HK5.out.mono ?_)) (h6.2.2.mono ?_)) (k11.mono ?_)) k12 (by omega)) (k23.mono ?_)
          · simp
          · simp
          · simp
          · simp
      · have hb3 : (st == 2) = false := by simpa using hbad
        have HNB : Hid (¬ (3 ≤ f ∧ lf < la)) := fun h => hbad (hs.mpr h)
        clear hs
        have r5 : roomAt w5 (w.heap.size + 1 + 1) 24 := HK5.out.room _ 24 (by have := HZ.out; omega) (by simp; have := HZ.out; omega) HR0.out
        have bz := build49_zero
        have st49' := st49 zc49 zc49_size zc49_one (w.heap.size + 1 + 1)
        go_wp2_with fail
        have d := HD.out
        have zz := HZ.out
        have hz5 := HK5.out.size
        have k12 := Keep.cells w5 (w.heap.size + 1 + 1) 0 zc49.toList
        have hT12 := HT5.out.keep k12 (by simp; omega) (by simp; omega) (by simp; omega)
        have l49 := ld49_other zc49 zc49_size (w.heap.size + 1 + 1) w5 ⟨T, 20, none⟩ (.int .i32 0) (by show T ≠ _; omega) r5
        have k23 : Keep [T] (w5.setCells (w.heap.size + 1 + 1) 0 zc49.toList) ((w5.setCells (w.heap.size + 1 + 1) 0 zc49.toList).setCell ⟨T, 20, none⟩ (.int .i32 0)) := Keep.set _ _ _ (by simp)
        refine leaves_cons (f := 18) (args := #[.pointer (some ⟨T, 20, none⟩)]) (by simp) (by simp [go_sem]) ?_
        refine (unlock_deferred muLib ⟨T, 20, none⟩ .returning _ hT12.mu (hT12.fT 20)).mono ?_
        rintro e u' w'' ⟨rfl, rfl, rfl⟩
        refine ⟨.tuple #[.agg zc49, .bool false], ?_, rfl, ⟨L, q', lr, f, hT12.set_mu 0, ?_, HNB.out⟩, ?_⟩
        · simp [results, Tryd.results10, go_sem, l49]
        · refine (HE5.out.keep k12 ?_).keep k23 ?_
          · simp; omega
          · simp; omega
        · refine Keep.trans (Keep.fresh ((Keep.ofBelow HB.out).trans (HK5.out.mono ?_)) k12 (by omega)) (k23.mono ?_)
          · simp
          · simp

end Go.Proofs.Qxb6615986aDoor
