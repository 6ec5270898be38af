import Derived.Test.Qxb6615986aDoorZZA
set_option linter.unusedSimpArgs false
namespace Go.Proofs.Qxb6615986aDoor
open Go.RowKit Go.MuLone
attribute [-go_sem] loadVar storeVar Instr.build
attribute [-simp] Tryd.zeroValue49 Tryd.zeroValue33
attribute [local go_sem] lvs svs bds idAt_drew idAt_drewN idAt_alloc hasId_self hasId_app idAt_setCell idAt_setCells cell_setCells frozen_setCells roomAt_drew roomAt_alloc hasRoom_cells idv_size app20 app21 app22 app23 app24

theorem r_of {r : Bool} {C D : Prop} (h : r = true ↔ C) (h2 : C ↔ D) (hd : D) : r = true := h.mpr (h2.mpr hd)
theorem r_not {r : Bool} {C D : Prop} (h : r = true ↔ C) (h2 : C ↔ D) (hd : ¬ D) : r = false := by
  cases r
  · rfl
  · exact absurd (h2.mp (h.mp rfl)) hd
/-- a peer's cells -/
def pv (i : ID20) (p : Nat → Int) (q : Int) : Array Value := idv i ++ #[.int .u8 (p 0), .int .u8 (p 1), .int .u8 (p 2), .int .u8 (p 3), .int .u16 q]
/-- the law's own boxes -/
structure LBox (W : World) (b : Nat) (s i o : ID20) (p po : Nat → Int) (q qo : Int) : Prop where
  i0 : idAt W b s
  i1 : idAt W (b + 1) i
  i2 : idAt W (b + 1 + 1) o
  a20 : W.cell? ⟨b + 1, 20, none⟩ = some (.int .u8 (p 0))
  a21 : W.cell? ⟨b + 1, 21, none⟩ = some (.int .u8 (p 1))
  a22 : W.cell? ⟨b + 1, 22, none⟩ = some (.int .u8 (p 2))
  a23 : W.cell? ⟨b + 1, 23, none⟩ = some (.int .u8 (p 3))
  a24 : W.cell? ⟨b + 1, 24, none⟩ = some (.int .u16 q)
  o20 : W.cell? ⟨b + 1 + 1, 20, none⟩ = some (.int .u8 (po 0))
  o21 : W.cell? ⟨b + 1 + 1, 21, none⟩ = some (.int .u8 (po 1))
  o22 : W.cell? ⟨b + 1 + 1, 22, none⟩ = some (.int .u8 (po 2))
  o23 : W.cell? ⟨b + 1 + 1, 23, none⟩ = some (.int .u8 (po 3))
  o24 : W.cell? ⟨b + 1 + 1, 24, none⟩ = some (.int .u16 qo)
theorem LBox.below {W W' : World} {b : Nat} {s i o : ID20} {p po : Nat → Int} {q qo : Int} (h : LBox W b s i o p po q qo) {B : Nat} (k : Below B W W') (hb : b + 1 + 1 < B) : LBox W' b s i o p po q qo := by
  have c : ∀ x j, x < B → W'.cell? ⟨x, j, none⟩ = W.cell? ⟨x, j, none⟩ := fun x j hx => k.cell (p := ⟨x, j, none⟩) hx
  constructor
  · rw [idAt_below k _ _ (by omega)]; exact h.i0
  · rw [idAt_below k _ _ (by omega)]; exact h.i1
  · rw [idAt_below k _ _ (by omega)]; exact h.i2
  · rw [c _ _ (by omega)]; exact h.a20
  · rw [c _ _ (by omega)]; exact h.a21
  · rw [c _ _ (by omega)]; exact h.a22
  · rw [c _ _ (by omega)]; exact h.a23
  · rw [c _ _ (by omega)]; exact h.a24
  · rw [c _ _ (by omega)]; exact h.o20
  · rw [c _ _ (by omega)]; exact h.o21
  · rw [c _ _ (by omega)]; exact h.o22
  · rw [c _ _ (by omega)]; exact h.o23
  · rw [c _ _ (by omega)]; exact h.o24
theorem lbox (w : World) (s i o : ID20) (p po : Nat → Int) (q qo : Int) : LBox (((w.alloc (.cells (idv s) 22)).alloc (.cells (pv i p q) 26)).alloc (.cells (pv o po qo) 26)) w.heap.size s i o p po q qo := by
  unfold pv
  constructor <;> simp [go_sem]

set_option maxRecDepth 8000 in
set_option maxHeartbeats 16000000 in
theorem law_gen (s i o : ID20) (p po : Nat → Int) (q qo nf ta tf tb t1 t2 : Int) (w W0 : World) (C1 C2 : Prop) (P0 : Nat → World → Prop) (P1 : Nat → Int → World → Prop) (P2 P3 P4 : Nat → World → Prop)
    (hW0 : W0 = ((w.alloc (.cells (idv s) 22)).alloc (.cells (pv i p q) 26)).alloc (.cells (pv o po qo) 26))
    (n0 : 0 ≤ nf) (n1 : nf ≤ 65536) (a0 : 0 ≤ ta) (a1 : ta ≤ 4611686018427387904) (f0 : 0 ≤ tf) (f1 : tf ≤ 4611686018427387904) (b0 : 0 ≤ tb) (b1 : tb ≤ 4611686018427387904) (x0 : 0 ≤ t1) (x1 : t1 ≤ 4611686018427387904) (y0 : 0 ≤ t2) (y1 : t2 ≤ 4611686018427387904)
    (c4 : Calls Tryd.prog 4 #[.agg (idv s), .int .i64 ta] W0 fun e w' => ∃ T, e = .returned (.pointer (some ⟨T, 0, none⟩)) ∧ P0 T w')
    (c5 : ∀ T wr, P0 T wr → Calls Tryd.prog 5 #[.pointer (some ⟨T, 0, none⟩), .agg (idv i), .agg (ipv p), .int .u16 q, .int .i64 ta] wr fun e w' => e = .returned (.bool false) ∧ P1 T 0 w')
    (c6 : ∀ T k wr, 0 ≤ k → k < nf → P1 T k wr → Calls Tryd.prog 6 #[.pointer (some ⟨T, 0, none⟩), .agg (ipv p), .int .u16 q, .int .i64 tf] wr fun e w' => e = .returned (.tuple #[]) ∧ P1 T (k + 1) w')
    (c7 : ∀ T wr, P1 T nf wr → Calls Tryd.prog 7 #[.pointer (some ⟨T, 0, none⟩), .agg (idv i), .agg (ipv p), .int .u16 q, .int .i64 t1] wr fun e w' => QuP C1 e ∧ P2 T w')
    (d5 : ∀ T wr, P2 T wr → Calls Tryd.prog 5 #[.pointer (some ⟨T, 0, none⟩), .agg (idv o), .agg (ipv po), .int .u16 qo, .int .i64 tb] wr fun e w' => e = .returned (.bool false) ∧ P3 T w')
    (d7 : ∀ T wr, P3 T wr → Calls Tryd.prog 7 #[.pointer (some ⟨T, 0, none⟩), .agg (idv i), .agg (ipv p), .int .u16 q, .int .i64 t2] wr fun e w' => QuP C2 e ∧ P4 T w')
    (g0 : ∀ T wr, P0 T wr → Below W0.heap.size W0 wr) (g1 : ∀ T k wr, P1 T k wr → Below W0.heap.size W0 wr) (g2 : ∀ T wr, P2 T wr → Below W0.heap.size W0 wr) (g3 : ∀ T wr, P3 T wr → Below W0.heap.size W0 wr) (g4 : ∀ T wr, P4 T wr → Below W0.heap.size W0 wr)
    (hC1 : C1 ↔ (i.1 == s.1) = false ∧ 3 ≤ nf ∧ tf < ta) (hC2 : C2 ↔ (i.1 == s.1) = false ∧ (o.1 == i.1) = false ∧ 3 ≤ nf ∧ tf < (if (o.1 == s.1) = false ∧ ta < tb then tb else ta)) :
    Calls Tryd.prog 3 #[.agg (idv s), .agg (pv i p q), .agg (pv o po qo), .int .i64 nf, .int .i64 ta, .int .i64 tf, .int .i64 tb, .int .i64 t1, .int .i64 t2] w fun e w' => e = .returned (.bool true) ∧ Below w.heap.size w w' := by
  have HX0 : Hid (LBox W0 w.heap.size s i o p po q qo) := by rw [hW0]; exact lbox w s i o p po q qo
  have HB0 : Hid (Below w.heap.size w W0) := by rw [hW0]; exact (((Below.refl _ _).alloc (Nat.le_refl _) _).alloc (by simp) _).alloc (by simp; omega) _
  have HZ0 : Hid (W0.heap.size = w.heap.size + 1 + 1 + 1) := by rw [hW0]; simp [Hid]
  have H4 := hidOf c4
  have H5 := hidOf c5
  have H6 := hidOf c6
  have H7 := hidOf c7
  have K5 := hidOf d5
  have K7 := hidOf d7
  have G0 := hidOf g0
  have G1 := hidOf g1
  have G2 := hidOf g2
  have G3 := hidOf g3
  have G4 := hidOf g4
  have E1 := hidOf hC1
  have E2 := hidOf hC2
  clear c4 c5 c6 c7 d5 d7 g0 g1 g2 g3 g4 hC1 hC2
  have u1 : decide (nf < 0) = false := by simp; omega
  have u2 : decide (65536 < nf) = false := by simp; omega
  have u3 : decide (ta < 0) = false := by simp; omega
  have u4 : decide (4611686018427387904 < ta) = false := by simp; omega
  have u5 : decide (tf < 0) = false := by simp; omega
  have u6 : decide (4611686018427387904 < tf) = false := by simp; omega
  have u7 : decide (tb < 0) = false := by simp; omega
  have u8 : decide (4611686018427387904 < tb) = false := by simp; omega
  have u9 : decide (t1 < 0) = false := by simp; omega
  have u10 : decide (4611686018427387904 < t1) = false := by simp; omega
  have u11 : decide (t2 < 0) = false := by simp; omega
  have u12 : decide (4611686018427387904 < t2) = false := by simp; omega
  have l0 := ld22 w.heap.size s
  have l1 := ld22 (w.heap.size + 1) i
  have l2 := ld22 (w.heap.size + 1 + 1) o
  have i0 := HX0.out.i0
  go_enter Tryd.func3, Tryd.ntmps3
  go_wp2_with fail
  rw [← hW0]
  clear hW0
  refine H4.out.mono ?_
  rintro e w1 ⟨T, rfl, p1⟩
  clear H4 i0
  have X := HX0.out.below (G0.out T w1 p1) (by have := HZ0.out; omega)
  have i0 := X.i0
  have i1 := X.i1
  have i2 := X.i2
  have a20 := X.a20
  have a21 := X.a21
  have a22 := X.a22
  have a23 := X.a23
  have a24 := X.a24
  have o20 := X.o20
  have o21 := X.o21
  have o22 := X.o22
  have o23 := X.o23
  have o24 := X.o24
  clear X
  go_wp2_with fail
  refine (H5.out T w1 p1).mono ?_
  rintro e w2 ⟨rfl, p2⟩
  clear H5 p1 G0
  clear i0 i1 i2 a20 a21 a22 a23 a24 o20 o21 o22 o23 o24
  go_wp2_with fail
  have HP2 := hidOf p2
  clear p2
  go_loopw [20] (fun v wr => ∃ k : Nat, v = .int .i64 k ∧ (k : Int) ≤ nf ∧ Hid (P1 T k wr)) (fun v _ => nf.toNat - (intOf v).toNat)
  case atStart => exact ⟨0, rfl, n0, HP2.out⟩
  case round =>
    obtain ⟨k, rfl, hk, HP⟩ := hrel
    by_cases hlt : (k : Int) < nf
    · have hlt1 : decide ((k : Int) < nf) = true := by simpa using hlt
      have X := HX0.out.below (G1.out T k wr HP.out) (by have := HZ0.out; omega)
      have i0 := X.i0
      have i1 := X.i1
      have i2 := X.i2
      have a20 := X.a20
      have a21 := X.a21
      have a22 := X.a22
      have a23 := X.a23
      have a24 := X.a24
      have o20 := X.o20
      have o21 := X.o21
      have o22 := X.o22
      have o23 := X.o23
      have o24 := X.o24
      clear X
      have hc := H6.out T k wr (by omega) hlt HP.out
      have hw1 : IntKind.i64.wrap ((k : Int) + 1) = (k : Int) + 1 := by rw [IntKind.wrap_i64]; omega
      go_wp2_with fail
      refine hc.mono ?_
      rintro e w3 ⟨rfl, p3⟩
      clear i0 i1 i2 a20 a21 a22 a23 a24 o20 o21 o22 o23 o24
      have HP3 := hidOf p3
      clear p3
      go_wp2_with fail
      go_roundw
      case rel => exact ⟨k + 1, by simp, by omega, by have := HP3.out; show P1 T ((k + 1 : Nat) : Int) w3; simpa using this⟩
      case measure => simp [intOf]; omega
    · have hlt1 : decide ((k : Int) < nf) = false := by simpa using hlt
      have HPn : Hid (P1 T nf wr) := by
        have : (k : Int) = nf := by omega
        have h := HP.out
        rw [this] at h
        exact h
      have X := HX0.out.below (G1.out T nf wr HPn.out) (by have := HZ0.out; omega)
      have i0 := X.i0
      have i1 := X.i1
      have i2 := X.i2
      have a20 := X.a20
      have a21 := X.a21
      have a22 := X.a22
      have a23 := X.a23
      have a24 := X.a24
      have o20 := X.o20
      have o21 := X.o21
      have o22 := X.o22
      have o23 := X.o23
      have o24 := X.o24
      clear X
      go_wp2_with fail
      refine (H7.out T wr HPn.out).mono ?_
      rintro e w3 ⟨⟨r1, rfl, hr1⟩, p3⟩
      have HP3 := hidOf p3
      have HR1 := hidOf hr1
      clear H7 H6 HPn HP p3 hr1
      clear i0 i1 i2 a20 a21 a22 a23 a24 o20 o21 o22 o23 o24
      have X := HX0.out.below (G2.out T w3 HP3.out) (by have := HZ0.out; omega)
      have i0 := X.i0
      have i1 := X.i1
      have i2 := X.i2
      have a20 := X.a20
      have a21 := X.a21
      have a22 := X.a22
      have a23 := X.a23
      have a24 := X.a24
      have o20 := X.o20
      have o21 := X.o21
      have o22 := X.o22
      have o23 := X.o23
      have o24 := X.o24
      clear X
      go_wp2_with fail
      refine (K5.out T w3 HP3.out).mono ?_
      rintro e w4 ⟨rfl, p4⟩
      have HP4 := hidOf p4
      clear K5 HP3 p4
      clear i0 i1 i2 a20 a21 a22 a23 a24 o20 o21 o22 o23 o24
      have X := HX0.out.below (G3.out T w4 HP4.out) (by have := HZ0.out; omega)
      have i0 := X.i0
      have i1 := X.i1
      have i2 := X.i2
      have a20 := X.a20
      have a21 := X.a21
      have a22 := X.a22
      have a23 := X.a23
      have a24 := X.a24
      have o20 := X.o20
      have o21 := X.o21
      have o22 := X.o22
      have o23 := X.o23
      have o24 := X.o24
      clear X
      go_wp2_with fail
      refine (K7.out T w4 HP4.out).mono ?_
      rintro e w5 ⟨⟨r2, rfl, hr2⟩, p5⟩
      have HP5 := hidOf p5
      have HR2 := hidOf hr2
      clear K7 HP4 p5 hr2
      clear i0 i1 i2 a20 a21 a22 a23 a24 o20 o21 o22 o23 o24
      have X := HX0.out.below (G4.out T w5 HP5.out) (by have := HZ0.out; omega)
      have i0 := X.i0
      have i1 := X.i1
      have i2 := X.i2
      have a20 := X.a20
      have a21 := X.a21
      have a22 := X.a22
      have a23 := X.a23
      have a24 := X.a24
      have o20 := X.o20
      have o21 := X.o21
      have o22 := X.o22
      have o23 := X.o23
      have o24 := X.o24
      clear X
      have q1 := eq22 i s
      have q2 := eq22 o s
      have q3 := eq22 o i
      by_cases ha : (i.1 == s.1) = true
      · rw [ha] at q1
        obtain rfl : r1 = false := r_not HR1.out E1.out (fun h => by rw [ha] at h; cases h.1)
        obtain rfl : r2 = false := r_not HR2.out E2.out (fun h => by rw [ha] at h; cases h.1)
        by_cases hb : (o.1 == s.1) = true
        · rw [hb] at q2
          have hlat : (if (o.1 == s.1) = false ∧ ta < tb then tb else ta) = ta := if_neg (fun h => by rw [hb] at h; cases h.1)
          clear hlat
          go_wp2_with fail
          go_ret
          exact ⟨rfl, HB0.out.trans ((G4.out T w5 HP5.out).mono (by have := HZ0.out; omega))⟩
        · have hb' : (o.1 == s.1) = false := by simpa using hb
          rw [hb'] at q2
          by_cases hf : ta < tb
          · have df : decide (ta < tb) = true := by simpa using hf
            have hlat : (if (o.1 == s.1) = false ∧ ta < tb then tb else ta) = tb := if_pos ⟨hb', hf⟩
            clear hlat
            go_wp2_with fail
            go_ret
            exact ⟨rfl, HB0.out.trans ((G4.out T w5 HP5.out).mono (by have := HZ0.out; omega))⟩
          · have df : decide (ta < tb) = false := by simpa using hf
            have hlat : (if (o.1 == s.1) = false ∧ ta < tb then tb else ta) = ta := if_neg (fun h => hf h.2)
            clear hlat
            go_wp2_with fail
            go_ret
            exact ⟨rfl, HB0.out.trans ((G4.out T w5 HP5.out).mono (by have := HZ0.out; omega))⟩
      · have ha' : (i.1 == s.1) = false := by simpa using ha
        rw [ha'] at q1
        by_cases hd : 3 ≤ nf
        · have dhd : decide (3 ≤ nf) = true := by simpa using hd
          by_cases he : tf < ta
          · have dhe : decide (tf < ta) = true := by simpa using he
            obtain rfl : r1 = true := r_of HR1.out E1.out ⟨ha', hd, he⟩
            by_cases hb : (o.1 == s.1) = true
            · rw [hb] at q2
              have hlat : (if (o.1 == s.1) = false ∧ ta < tb then tb else ta) = ta := if_neg (fun h => by rw [hb] at h; cases h.1)
              by_cases hc : (o.1 == i.1) = true
              · rw [hc] at q3
                obtain rfl : r2 = false := r_not HR2.out E2.out (fun h => by rw [hc] at h; cases h.2.1)
                clear hlat
                go_wp2_with fail
                go_ret
                exact ⟨rfl, HB0.out.trans ((G4.out T w5 HP5.out).mono (by have := HZ0.out; omega))⟩
              · have hc' : (o.1 == i.1) = false := by simpa using hc
                rw [hc'] at q3
                by_cases hl : tf < ta
                · have dl : decide (tf < ta) = true := by simpa using hl
                  obtain rfl : r2 = true := r_of HR2.out E2.out ⟨ha', hc', hd, by rw [hlat]; exact hl⟩
                  clear hlat
                  go_wp2_with fail
                  go_ret
                  exact ⟨rfl, HB0.out.trans ((G4.out T w5 HP5.out).mono (by have := HZ0.out; omega))⟩
                · exfalso; omega
            · have hb' : (o.1 == s.1) = false := by simpa using hb
              rw [hb'] at q2
              by_cases hf : ta < tb
              · have df : decide (ta < tb) = true := by simpa using hf
                have hlat : (if (o.1 == s.1) = false ∧ ta < tb then tb else ta) = tb := if_pos ⟨hb', hf⟩
                by_cases hc : (o.1 == i.1) = true
                · rw [hc] at q3
                  obtain rfl : r2 = false := r_not HR2.out E2.out (fun h => by rw [hc] at h; cases h.2.1)
                  clear hlat
                  go_wp2_with fail
                  go_ret
                  exact ⟨rfl, HB0.out.trans ((G4.out T w5 HP5.out).mono (by have := HZ0.out; omega))⟩
                · have hc' : (o.1 == i.1) = false := by simpa using hc
                  rw [hc'] at q3
                  by_cases hl : tf < tb
                  · have dl : decide (tf < tb) = true := by simpa using hl
                    obtain rfl : r2 = true := r_of HR2.out E2.out ⟨ha', hc', hd, by rw [hlat]; exact hl⟩
                    clear hlat
                    go_wp2_with fail
                    go_ret
                    exact ⟨rfl, HB0.out.trans ((G4.out T w5 HP5.out).mono (by have := HZ0.out; omega))⟩
                  · exfalso; omega
              · have df : decide (ta < tb) = false := by simpa using hf
                have hlat : (if (o.1 == s.1) = false ∧ ta < tb then tb else ta) = ta := if_neg (fun h => hf h.2)
                by_cases hc : (o.1 == i.1) = true
                · rw [hc] at q3
                  obtain rfl : r2 = false := r_not HR2.out E2.out (fun h => by rw [hc] at h; cases h.2.1)
                  clear hlat
                  go_wp2_with fail
                  go_ret
                  exact ⟨rfl, HB0.out.trans ((G4.out T w5 HP5.out).mono (by have := HZ0.out; omega))⟩
                · have hc' : (o.1 == i.1) = false := by simpa using hc
                  rw [hc'] at q3
                  by_cases hl : tf < ta
                  · have dl : decide (tf < ta) = true := by simpa using hl
                    obtain rfl : r2 = true := r_of HR2.out E2.out ⟨ha', hc', hd, by rw [hlat]; exact hl⟩
                    clear hlat
                    go_wp2_with fail
                    go_ret
                    exact ⟨rfl, HB0.out.trans ((G4.out T w5 HP5.out).mono (by have := HZ0.out; omega))⟩
                  · exfalso; omega
          · have dhe : decide (tf < ta) = false := by simpa using he
            obtain rfl : r1 = false := r_not HR1.out E1.out (fun h => he h.2.2)
            by_cases hb : (o.1 == s.1) = true
            · rw [hb] at q2
              have hlat : (if (o.1 == s.1) = false ∧ ta < tb then tb else ta) = ta := if_neg (fun h => by rw [hb] at h; cases h.1)
              by_cases hc : (o.1 == i.1) = true
              · rw [hc] at q3
                obtain rfl : r2 = false := r_not HR2.out E2.out (fun h => by rw [hc] at h; cases h.2.1)
                clear hlat
                go_wp2_with fail
                go_ret
                exact ⟨rfl, HB0.out.trans ((G4.out T w5 HP5.out).mono (by have := HZ0.out; omega))⟩
              · have hc' : (o.1 == i.1) = false := by simpa using hc
                rw [hc'] at q3
                by_cases hl : tf < ta
                · exfalso; omega
                · have dl : decide (tf < ta) = false := by simpa using hl
                  obtain rfl : r2 = false := r_not HR2.out E2.out (fun h => hl (by have := h.2.2.2; rw [hlat] at this; exact this))
                  clear hlat
                  go_wp2_with fail
                  go_ret
                  exact ⟨rfl, HB0.out.trans ((G4.out T w5 HP5.out).mono (by have := HZ0.out; omega))⟩
            · have hb' : (o.1 == s.1) = false := by simpa using hb
              rw [hb'] at q2
              by_cases hf : ta < tb
              · have df : decide (ta < tb) = true := by simpa using hf
                have hlat : (if (o.1 == s.1) = false ∧ ta < tb then tb else ta) = tb := if_pos ⟨hb', hf⟩
                by_cases hc : (o.1 == i.1) = true
                · rw [hc] at q3
                  obtain rfl : r2 = false := r_not HR2.out E2.out (fun h => by rw [hc] at h; cases h.2.1)
                  clear hlat
                  go_wp2_with fail
                  go_ret
                  exact ⟨rfl, HB0.out.trans ((G4.out T w5 HP5.out).mono (by have := HZ0.out; omega))⟩
                · have hc' : (o.1 == i.1) = false := by simpa using hc
                  rw [hc'] at q3
                  by_cases hl : tf < tb
                  · have dl : decide (tf < tb) = true := by simpa using hl
                    obtain rfl : r2 = true := r_of HR2.out E2.out ⟨ha', hc', hd, by rw [hlat]; exact hl⟩
                    clear hlat
                    go_wp2_with fail
                    go_ret
                    exact ⟨rfl, HB0.out.trans ((G4.out T w5 HP5.out).mono (by have := HZ0.out; omega))⟩
                  · have dl : decide (tf < tb) = false := by simpa using hl
                    obtain rfl : r2 = false := r_not HR2.out E2.out (fun h => hl (by have := h.2.2.2; rw [hlat] at this; exact this))
                    clear hlat
                    go_wp2_with fail
                    go_ret
                    exact ⟨rfl, HB0.out.trans ((G4.out T w5 HP5.out).mono (by have := HZ0.out; omega))⟩
              · have df : decide (ta < tb) = false := by simpa using hf
                have hlat : (if (o.1 == s.1) = false ∧ ta < tb then tb else ta) = ta := if_neg (fun h => hf h.2)
                by_cases hc : (o.1 == i.1) = true
                · rw [hc] at q3
                  obtain rfl : r2 = false := r_not HR2.out E2.out (fun h => by rw [hc] at h; cases h.2.1)
                  clear hlat
                  go_wp2_with fail
                  go_ret
                  exact ⟨rfl, HB0.out.trans ((G4.out T w5 HP5.out).mono (by have := HZ0.out; omega))⟩
                · have hc' : (o.1 == i.1) = false := by simpa using hc
                  rw [hc'] at q3
                  by_cases hl : tf < ta
                  · exfalso; omega
                  · have dl : decide (tf < ta) = false := by simpa using hl
                    obtain rfl : r2 = false := r_not HR2.out E2.out (fun h => hl (by have := h.2.2.2; rw [hlat] at this; exact this))
                    clear hlat
                    go_wp2_with fail
                    go_ret
                    exact ⟨rfl, HB0.out.trans ((G4.out T w5 HP5.out).mono (by have := HZ0.out; omega))⟩
        · have dhd : decide (3 ≤ nf) = false := by simpa using hd
          obtain rfl : r1 = false := r_not HR1.out E1.out (fun h => hd h.2.1)
          by_cases hb : (o.1 == s.1) = true
          · rw [hb] at q2
            have hlat : (if (o.1 == s.1) = false ∧ ta < tb then tb else ta) = ta := if_neg (fun h => by rw [hb] at h; cases h.1)
            by_cases hc : (o.1 == i.1) = true
            · rw [hc] at q3
              obtain rfl : r2 = false := r_not HR2.out E2.out (fun h => by rw [hc] at h; cases h.2.1)
              clear hlat
              go_wp2_with fail
              go_ret
              exact ⟨rfl, HB0.out.trans ((G4.out T w5 HP5.out).mono (by have := HZ0.out; omega))⟩
            · have hc' : (o.1 == i.1) = false := by simpa using hc
              rw [hc'] at q3
              obtain rfl : r2 = false := r_not HR2.out E2.out (fun h => hd h.2.2.1)
              clear hlat
              go_wp2_with fail
              go_ret
              exact ⟨rfl, HB0.out.trans ((G4.out T w5 HP5.out).mono (by have := HZ0.out; omega))⟩
          · have hb' : (o.1 == s.1) = false := by simpa using hb
            rw [hb'] at q2
            by_cases hf : ta < tb
            · have df : decide (ta < tb) = true := by simpa using hf
              have hlat : (if (o.1 == s.1) = false ∧ ta < tb then tb else ta) = tb := if_pos ⟨hb', hf⟩
              by_cases hc : (o.1 == i.1) = true
              · rw [hc] at q3
                obtain rfl : r2 = false := r_not HR2.out E2.out (fun h => by rw [hc] at h; cases h.2.1)
                clear hlat
                go_wp2_with fail
                go_ret
                exact ⟨rfl, HB0.out.trans ((G4.out T w5 HP5.out).mono (by have := HZ0.out; omega))⟩
              · have hc' : (o.1 == i.1) = false := by simpa using hc
                rw [hc'] at q3
                obtain rfl : r2 = false := r_not HR2.out E2.out (fun h => hd h.2.2.1)
                clear hlat
                go_wp2_with fail
                go_ret
                exact ⟨rfl, HB0.out.trans ((G4.out T w5 HP5.out).mono (by have := HZ0.out; omega))⟩
            · have df : decide (ta < tb) = false := by simpa using hf
              have hlat : (if (o.1 == s.1) = false ∧ ta < tb then tb else ta) = ta := if_neg (fun h => hf h.2)
              by_cases hc : (o.1 == i.1) = true
              · rw [hc] at q3
                obtain rfl : r2 = false := r_not HR2.out E2.out (fun h => by rw [hc] at h; cases h.2.1)
                clear hlat
                go_wp2_with fail
                go_ret
                exact ⟨rfl, HB0.out.trans ((G4.out T w5 HP5.out).mono (by have := HZ0.out; omega))⟩
              · have hc' : (o.1 == i.1) = false := by simpa using hc
                rw [hc'] at q3
                obtain rfl : r2 = false := r_not HR2.out E2.out (fun h => hd h.2.2.1)
                clear hlat
                go_wp2_with fail
                go_ret
                exact ⟨rfl, HB0.out.trans ((G4.out T w5 HP5.out).mono (by have := HZ0.out; omega))⟩
end Go.Proofs.Qxb6615986aDoor
