import Derived.Test.Qxb6615986aDoorLawG
set_option linter.unusedSimpArgs false
namespace Go.Proofs.Qxb6615986aDoor
open Go.RowKit Go.MuLone

/-- the table is there, above N -/
structure Base (N : Nat) (W0 wr : World) (s : ID20) (T BS BK : Nat) (la : Int) (sl : Value) : Prop where
  tab : Tab wr T BS BK s 0 la sl
  g1 : N ≤ T
  g2 : N ≤ BS
  g3 : N ≤ BK
  bel : Below N W0 wr
theorem Base.next {N : Nat} {W0 wr w' : World} {s : ID20} {T BS BK : Nat} {la la' : Int} {sl sl' : Value} (h : Base N W0 wr s T BS BK la sl) (ht : Tab w' T BS BK s 0 la' sl') {l : List Nat} (k : Keep l wr w') (hl : ∀ x ∈ l, N ≤ x) (hN : N ≤ W0.heap.size) : Base N W0 w' s T BS BK la' sl' :=
  ⟨ht, h.g1, h.g2, h.g3, h.bel.trans (k.below (Nat.le_trans hN h.bel.size) hl)⟩
theorem Base.below {N : Nat} {W0 wr w' : World} {s : ID20} {T BS BK : Nat} {la : Int} {sl : Value} (h : Base N W0 wr s T BS BK la sl) (k : Below wr.heap.size wr w') (hN : N ≤ W0.heap.size) : Base N W0 w' s T BS BK la sl :=
  h.next (h.tab.below k (Nat.le_refl _)) (Keep.ofBelow (L := []) k) (by simp) hN
/-- the entry that the table's first place leads to -/
structure On (N : Nat) (wr : World) (i : ID20) (T BS BK ES E : Nat) (L q lr lq f lf : Int) (z : Addr) : Prop where
  cell : wr.cell? ⟨ES, 0, none⟩ = some (.pointer (some ⟨E, 0, none⟩))
  ent : Ent wr E i L z q lr lq f lf
  lES : ES < wr.heap.size
  d1 : E ≠ T
  d2 : E ≠ BS
  d3 : E ≠ BK
  d4 : ES ≠ T
  d5 : ES ≠ E
  d6 : ES ≠ BS
  d7 : ES ≠ BK
  g4 : N ≤ E
  g5 : N ≤ ES
theorem On.next {N : Nat} {wr w' : World} {i : ID20} {T BS BK ES E : Nat} {L q lr lq f lf L' q' lr' lq' f' lf' : Int} {z : Addr} (h : On N wr i T BS BK ES E L q lr lq f lf z) (he : Ent w' E i L' z q' lr' lq' f' lf') {l : List Nat} (k : Keep l wr w') (hl : ES ∉ l) : On N w' i T BS BK ES E L' q' lr' lq' f' lf' z :=
  ⟨by rw [k.cell ES 0 h.lES hl]; exact h.cell, he, Nat.lt_of_lt_of_le h.lES k.size, h.d1, h.d2, h.d3, h.d4, h.d5, h.d6, h.d7, h.g4, h.g5⟩
theorem own_lt {w : World} {B ES n c : Nat} {x : Value} {xs : List Value} (h : w.ownsRow B 76 1 (.slice (some ⟨ES, 0, none⟩) n c) n (x :: xs)) : ES < w.heap.size := World.block_lt_of_cell? w ⟨ES, 0, none⟩ (own_first h)
theorem own_ge {w : World} {B ES n c : Nat} {xs : List Value} (h : w.ownsRow B 76 1 (.slice (some ⟨ES, 0, none⟩) n c) n xs) : B ≤ ES := by
  obtain ⟨_, h2⟩ := h
  rcases h2 with ⟨h2, _⟩ | ⟨g, cap, cur, hv, hb, _⟩
  · cases h2
  · cases hv; exact hb

theorem law_self (s i o : ID20) (p po : Nat → Int) (q qo nf ta tf tb t1 t2 : Int) (z : Addr) (w : World) (hp : ∀ i, 0 ≤ p i ∧ p i < 256) (hpo : ∀ i, 0 ≤ po i ∧ po i < 256) (hz : w.cell? ⟨0, 0, none⟩ = some (.pointer (some z))) (hsz : 0 < w.heap.size)
    (n0 : 0 ≤ nf) (n1 : nf ≤ 65536) (a0 : 0 ≤ ta) (a1 : ta ≤ 4611686018427387904) (f0 : 0 ≤ tf) (f1 : tf ≤ 4611686018427387904) (b0 : 0 ≤ tb) (b1 : tb ≤ 4611686018427387904) (x0 : 0 ≤ t1) (x1 : t1 ≤ 4611686018427387904) (y0 : 0 ≤ t2) (y1 : t2 ≤ 4611686018427387904)
    (his : (i.1 == s.1) = true) :
    Calls Tryd.prog 3 #[.agg (idv s), .agg (pv i p q), .agg (pv o po qo), .int .i64 nf, .int .i64 ta, .int .i64 tf, .int .i64 tb, .int .i64 t1, .int .i64 t2] w fun e w' => e = .returned (.bool true) ∧ Below w.heap.size w w' := by
  obtain ⟨W0, hW0⟩ : ∃ W0, W0 = ((w.alloc (.cells (idv s) 22)).alloc (.cells (pv i p q) 26)).alloc (.cells (pv o po qo) 26) := ⟨_, rfl⟩
  have B0 : Below w.heap.size w W0 := by rw [hW0]; exact (((Below.refl _ _).alloc (Nat.le_refl _) _).alloc (by simp) _).alloc (by simp; omega) _
  have z0 : W0.cell? ⟨0, 0, none⟩ = some (.pointer (some z)) := by rw [B0.cell (p := ⟨0, 0, none⟩) hsz]; exact hz
  have s0 : 0 < W0.heap.size := Nat.lt_of_lt_of_le hsz B0.size
  have zr : ∀ wr, Below W0.heap.size W0 wr → wr.cell? ⟨0, 0, none⟩ = some (.pointer (some z)) ∧ 0 < wr.heap.size := fun wr hb => ⟨by rw [hb.cell (p := ⟨0, 0, none⟩) s0]; exact z0, Nat.lt_of_lt_of_le s0 hb.size⟩
  refine law_gen s i o p po q qo nf ta tf tb t1 t2 w W0 False False
    (fun T wr => ∃ BS BK, Base W0.heap.size W0 wr s T BS BK 0 (.slice none 0 0)) (fun T _ wr => ∃ BS BK, Base W0.heap.size W0 wr s T BS BK 0 (.slice none 0 0)) (fun T wr => ∃ BS BK, Base W0.heap.size W0 wr s T BS BK 0 (.slice none 0 0))
    (fun T wr => ∃ BS BK la sl, Base W0.heap.size W0 wr s T BS BK la sl) (fun _ wr => Below W0.heap.size W0 wr) hW0 n0 n1 a0 a1 f0 f1 b0 b1 x0 x1 y0 y1 ?_ ?_ ?_ ?_ ?_ ?_ ?_ ?_ ?_ ?_ ?_ ?_ ?_
  · refine (zznewTable_any s ta W0 a0 a1).mono ?_
    rintro e w' ⟨T, BS, BK, rfl, hb, hT, h1, h2, h3⟩
    exact ⟨T, rfl, BS, BK, hT, h1, h2, h3, hb⟩
  · rintro T wr ⟨BS, BK, h⟩
    refine (zzanswered_self T BS BK s i 0 0 _ p q ta z wr hp (zr wr h.bel).1 (zr wr h.bel).2 a0 a1 h.tab his).mono ?_
    rintro e w' ⟨rfl, hb⟩
    exact ⟨rfl, BS, BK, h.below hb (Nat.le_refl _)⟩
  · rintro T k wr _ _ ⟨BS, BK, h⟩
    refine (zzfailed_none T BS BK s 0 p q tf z wr hp (zr wr h.bel).1 (zr wr h.bel).2 f0 f1 h.tab).mono ?_
    rintro e w' ⟨rfl, hT, hk⟩
    exact ⟨rfl, BS, BK, h.next hT hk (by simpa using h.g1) (Nat.le_refl _)⟩
  · rintro T wr ⟨BS, BK, h⟩
    refine (zzqueried_self T BS BK s i 0 0 _ p q t1 z wr hp (zr wr h.bel).1 (zr wr h.bel).2 x0 x1 h.tab his).mono ?_
    rintro e w' ⟨hq, hb⟩
    exact ⟨hq, BS, BK, h.below hb (Nat.le_refl _)⟩
  · rintro T wr ⟨BS, BK, h⟩
    by_cases hos : (o.1 == s.1) = true
    · refine (zzanswered_self T BS BK s o 0 0 _ po qo tb z wr hpo (zr wr h.bel).1 (zr wr h.bel).2 b0 b1 h.tab hos).mono ?_
      rintro e w' ⟨rfl, hb⟩
      exact ⟨rfl, BS, BK, _, _, h.below hb (Nat.le_refl _)⟩
    · refine (zzanswered_add T BS BK s o po 0 qo tb z none 0 0 W0.heap.size [] [] wr hpo (zr wr h.bel).1 (zr wr h.bel).2 b0 b1 h.tab (by simpa using hos) (by omega) ⟨rfl, .inl ⟨rfl, rfl⟩⟩ (by intro x hx; cases hx) (by simp) h.bel.size (fun w1 la1 _ ht => find_none T BS BK s o 1 la1 w1 ht)).mono ?_
      rintro e w' ⟨rfl, ⟨ES, c', E, hT, _⟩, hk⟩
      exact ⟨rfl, BS, BK, _, _, h.next hT hk (by simpa using ⟨h.g1, h.g3⟩) (Nat.le_refl _)⟩
  · rintro T wr ⟨BS, BK, la, sl, h⟩
    refine (zzqueried_self T BS BK s i la 0 sl p q t2 z wr hp (zr wr h.bel).1 (zr wr h.bel).2 y0 y1 h.tab his).mono ?_
    rintro e w' ⟨hq, hb⟩
    exact ⟨hq, (h.below hb (Nat.le_refl _)).bel⟩
  · rintro T wr ⟨BS, BK, h⟩; exact h.bel
  · rintro T _ wr ⟨BS, BK, h⟩; exact h.bel
  · rintro T wr ⟨BS, BK, h⟩; exact h.bel
  · rintro T wr ⟨BS, BK, la, sl, h⟩; exact h.bel
  · rintro T wr h; exact h
  · rw [his]; simp
  · rw [his]; simp

theorem law_other (s i o : ID20) (p po : Nat → Int) (q qo nf ta tf tb t1 t2 : Int) (z : Addr) (w : World) (hp : ∀ i, 0 ≤ p i ∧ p i < 256) (hpo : ∀ i, 0 ≤ po i ∧ po i < 256) (hz : w.cell? ⟨0, 0, none⟩ = some (.pointer (some z))) (hsz : 0 < w.heap.size)
    (n0 : 0 ≤ nf) (n1 : nf ≤ 65536) (a0 : 0 ≤ ta) (a1 : ta ≤ 4611686018427387904) (f0 : 0 ≤ tf) (f1 : tf ≤ 4611686018427387904) (b0 : 0 ≤ tb) (b1 : tb ≤ 4611686018427387904) (x0 : 0 ≤ t1) (x1 : t1 ≤ 4611686018427387904) (y0 : 0 ≤ t2) (y1 : t2 ≤ 4611686018427387904)
    (his : (i.1 == s.1) = false) :
    Calls Tryd.prog 3 #[.agg (idv s), .agg (pv i p q), .agg (pv o po qo), .int .i64 nf, .int .i64 ta, .int .i64 tf, .int .i64 tb, .int .i64 t1, .int .i64 t2] w fun e w' => e = .returned (.bool true) ∧ Below w.heap.size w w' := by
  obtain ⟨W0, hW0⟩ : ∃ W0, W0 = ((w.alloc (.cells (idv s) 22)).alloc (.cells (pv i p q) 26)).alloc (.cells (pv o po qo) 26) := ⟨_, rfl⟩
  have B0 : Below w.heap.size w W0 := by rw [hW0]; exact (((Below.refl _ _).alloc (Nat.le_refl _) _).alloc (by simp) _).alloc (by simp; omega) _
  have z0 : W0.cell? ⟨0, 0, none⟩ = some (.pointer (some z)) := by rw [B0.cell (p := ⟨0, 0, none⟩) hsz]; exact hz
  have s0 : 0 < W0.heap.size := Nat.lt_of_lt_of_le hsz B0.size
  have zr : ∀ wr, Below W0.heap.size W0 wr → wr.cell? ⟨0, 0, none⟩ = some (.pointer (some z)) ∧ 0 < wr.heap.size := fun wr hb => ⟨by rw [hb.cell (p := ⟨0, 0, none⟩) s0]; exact z0, Nat.lt_of_lt_of_le s0 hb.size⟩
  obtain ⟨N, hN⟩ : ∃ N, N = W0.heap.size := ⟨_, rfl⟩
  refine law_gen s i o p po q qo nf ta tf tb t1 t2 w W0 (3 ≤ nf ∧ (if nf = 0 then 0 else tf) < ta) ((i.1 == s.1) = false ∧ (o.1 == i.1) = false ∧ 3 ≤ nf ∧ tf < (if (o.1 == s.1) = false ∧ ta < tb then tb else ta))
    (fun T wr => ∃ BS BK, Base N W0 wr s T BS BK 0 (.slice none 0 0))
    (fun T k wr => ∃ BS BK ES c E, Base N W0 wr s T BS BK ta (.slice (some ⟨ES, 0, none⟩) 1 c) ∧ On N wr i T BS BK ES E (lo4 p) q ta 0 k (if k = 0 then 0 else tf) z ∧ wr.ownsRow N 76 1 (.slice (some ⟨ES, 0, none⟩) 1 c) 1 [.pointer (some ⟨E, 0, none⟩)])
    (fun T wr => ∃ BS BK ES c E lq, Base N W0 wr s T BS BK ta (.slice (some ⟨ES, 0, none⟩) 1 c) ∧ On N wr i T BS BK ES E (lo4 p) q ta lq nf (if nf = 0 then 0 else tf) z ∧ wr.ownsRow N 76 1 (.slice (some ⟨ES, 0, none⟩) 1 c) 1 [.pointer (some ⟨E, 0, none⟩)])
    (fun T wr => ∃ BS BK ES nn c E la L' q' lr lq f lf, Base N W0 wr s T BS BK la (.slice (some ⟨ES, 0, none⟩) nn c) ∧ On N wr i T BS BK ES E L' q' lr lq f lf z ∧ 0 < nn ∧ ((3 ≤ f ∧ lf < la) ↔ ((i.1 == s.1) = false ∧ (o.1 == i.1) = false ∧ 3 ≤ nf ∧ tf < (if (o.1 == s.1) = false ∧ ta < tb then tb else ta))))
    (fun _ wr => Below N W0 wr) hW0 n0 n1 a0 a1 f0 f1 b0 b1 x0 x1 y0 y1 ?_ ?_ ?_ ?_ ?_ ?_ ?_ ?_ ?_ ?_ ?_ ?_ ?_
  · refine (zznewTable_any s ta W0 a0 a1).mono ?_
    rintro e w' ⟨T, BS, BK, rfl, hb, hT, h1, h2, h3⟩
    exact ⟨T, rfl, BS, BK, hT, by omega, by omega, by omega, by rw [hN]; exact hb⟩
  · rintro T wr ⟨BS, BK, h⟩
    have hz := zr wr (hN ▸ h.bel)
    have hsz := h.bel.size
    refine (zzanswered_add T BS BK s i p 0 q ta z none 0 0 N [] [] wr hp hz.1 hz.2 a0 a1 h.tab his (by omega) ⟨rfl, .inl ⟨rfl, rfl⟩⟩ (by intro x hx; cases hx) (by simp) (by omega) (fun w1 la1 _ ht => find_none T BS BK s i 1 la1 w1 ht)).mono ?_
    rintro e w' ⟨rfl, ⟨ES, c', E, hT, ho, he, hE, hES, hne⟩, hk⟩
    have hES' : wr.heap.size ≤ ES := by
      rcases hES with h | h
      · cases h
      · exact h
    have hla : (if (0 : Int) < ta then ta else 0) = ta := by split <;> omega
    rw [hla] at hT
    have t1 := h.tab.lT
    have t2 := h.tab.lS
    have t3 := h.tab.lK
    refine ⟨rfl, BS, BK, ES, c', E, h.next hT hk (by simpa using ⟨h.g1, h.g3⟩) (by omega), ⟨own_first ho, ?_, own_lt ho, by omega, by omega, by omega, by omega, hne, by omega, by omega, by omega, by omega⟩, ho⟩
    simpa using he
  · rintro T k wr hk0 hk1 ⟨BS, BK, ES, c, E, h, ho, hw⟩
    have hz := zr wr (hN ▸ h.bel)
    refine (zzfailed_one T BS BK ES c E s i ta ta 0 k _ p q tf z wr hp hz.1 hz.2 f0 f1 h.tab ho.ent ho.cell ho.lES ho.d1 ho.d2 ho.d3 ho.d4 hk0 (by omega)).mono ?_
    rintro e w' ⟨rfl, hT, he, hk⟩
    refine ⟨rfl, BS, BK, ES, c, E, h.next hT hk (by simpa using ⟨h.g1, ho.g4⟩) (by omega), ho.next ?_ hk (by simpa using ⟨ho.d4, ho.d5⟩), own_keep hw hk (by intro x hx; cases hx; simpa using ⟨ho.d4, ho.d5⟩)⟩
    rw [if_neg (by omega)]
    exact he
  · rintro T wr ⟨BS, BK, ES, c, E, h, ho, hw⟩
    have hz := zr wr (hN ▸ h.bel)
    refine (zzqueried_hit T BS BK ES 1 c E s i i p ta q t1 _ _ _ _ _ _ z wr hp hz.1 hz.2 x0 x1 h.tab ho.ent ho.cell ho.lES ho.d1 ho.d2 ho.d3 ho.d4 ho.d5 (by omega) his (by simp)).mono ?_
    rintro e w' ⟨hq, ⟨lq', hT, he⟩, hk⟩
    exact ⟨hq, BS, BK, ES, c, E, lq', h.next hT hk (by simpa using ⟨h.g1, ho.g4⟩) (by omega), ho.next he hk (by simpa using ⟨ho.d4, ho.d5⟩), own_keep hw hk (by intro x hx; cases hx; simpa using ⟨ho.d4, ho.d5⟩)⟩
  · rintro T wr ⟨BS, BK, ES, c, E, lq, h, ho, hw⟩
    have hz := zr wr (hN ▸ h.bel)
    have hsz := h.bel.size
    by_cases hos : (o.1 == s.1) = true
    · refine (zzanswered_self T BS BK s o ta 0 _ po qo tb z wr hpo hz.1 hz.2 b0 b1 h.tab hos).mono ?_
      rintro e w' ⟨rfl, hb⟩
      refine ⟨rfl, BS, BK, ES, 1, c, E, ta, _, _, _, _, _, _, h.below hb (by omega), ho.next (ho.ent.below hb (Nat.le_refl _)) (Keep.ofBelow (L := []) hb) (by simp), by omega, ?_⟩
      have hoi : (o.1 == i.1) = false := by
        have h1 : o.1 = s.1 := by simpa using hos
        have h2 : ¬ i.1 = s.1 := by simpa using his
        simp only [beq_eq_false_iff_ne, ne_eq]
        exact fun e => h2 (e.symm.trans h1)
      rw [his, hoi, hos]
      simp
      intro h3
      rw [if_neg (by omega)]
    · have hos' : (o.1 == s.1) = false := by simpa using hos
      by_cases hoi : (o.1 == i.1) = true
      · have hio : (i.1 == o.1) = true := by
          have h1 : o.1 = i.1 := by simpa using hoi
          simp [h1]
        refine (zzanswered_again T BS BK ES c E s o i po ta qo tb _ _ _ _ _ _ z wr hpo hz.1 hz.2 b0 b1 h.tab ho.ent ho.cell ho.lES ho.d1 ho.d2 ho.d3 ho.d4 hos' hio).mono ?_
        rintro e w' ⟨rfl, ⟨L', q', lr', f', hT, he, hno⟩, hk⟩
        refine ⟨rfl, BS, BK, ES, 1, c, E, _, _, _, _, _, _, _, h.next hT hk (by simpa using ⟨h.g1, h.g3, ho.g4⟩) (by omega), ho.next he hk (by simpa using ⟨ho.d4, ho.d7, ho.d5⟩), by omega, ?_⟩
        rw [hoi]
        simpa using hno
      · have hoi' : (o.1 == i.1) = false := by simpa using hoi
        have hio : (i.1 == o.1) = false := by
          have h1 : ¬ o.1 = i.1 := by simpa using hoi
          simp only [beq_eq_false_iff_ne, ne_eq]
          exact fun e => h1 e.symm
        have hLw : ∀ x ∈ [ES], x ≠ T ∧ x ≠ BS ∧ x ≠ BK ∧ x < wr.heap.size := by
          intro x hx
          rw [List.mem_singleton] at hx
          rw [hx]
          exact ⟨ho.d4, ho.d6, ho.d7, ho.lES⟩
        refine (zzanswered_add T BS BK s o po ta qo tb z (some ⟨ES, 0, none⟩) 1 c N [.pointer (some ⟨E, 0, none⟩)] [ES] wr hpo hz.1 hz.2 b0 b1 h.tab hos' (by omega) hw (by intro x hx; cases hx; simp) hLw (by omega) (fun w1 la1 hk1 ht => ?_)).mono ?_
        · exact find_miss T BS BK ES c E s i o 1 la1 w1 ht (by rw [hk1.cell ES 0 ho.lES (by simpa using ho.d4)]; exact ho.cell) (ho.ent.keep hk1 (by simpa using ho.d1)).id (Nat.lt_of_lt_of_le ho.lES hk1.size) (Nat.lt_of_lt_of_le ho.ent.lt hk1.size) hio
        · rintro e w' ⟨rfl, ⟨ES', c', E', hT, hw', _, _, hES, _⟩, hk⟩
          have t1 := h.tab.lT
          have t2 := h.tab.lS
          have t3 := h.tab.lK
          have t4 := ho.ent.lt
          have hd : ES' ≠ T ∧ ES' ≠ E ∧ ES' ≠ BS ∧ ES' ≠ BK := by
            rcases hES with h5 | h5
            · obtain rfl : ES' = ES := by simpa using h5
              exact ⟨ho.d4, ho.d5, ho.d6, ho.d7⟩
            · exact ⟨by omega, by omega, by omega, by omega⟩
          refine ⟨rfl, BS, BK, ES', 2, c', E, _, _, _, _, _, _, _, h.next hT hk (by simpa using ⟨h.g1, h.g3, ho.g5⟩) (by omega), ⟨own_first (xs := [.pointer (some ⟨E', 0, none⟩)]) hw', ho.ent.keep hk (by simpa using ⟨ho.d1, ho.d3, fun e => ho.d5 e.symm⟩), own_lt (xs := [.pointer (some ⟨E', 0, none⟩)]) hw', ho.d1, ho.d2, ho.d3, hd.1, hd.2.1, hd.2.2.1, hd.2.2.2, ho.g4, own_ge hw'⟩, by omega, ?_⟩
          rw [his, hoi', hos']
          simp
          intro h3
          rw [if_neg (by omega)]
  · rintro T wr ⟨BS, BK, ES, nn, c, E, la, L', q', lr, lq, f, lf, h, ho, hnn, hC⟩
    have hz := zr wr (hN ▸ h.bel)
    refine (zzqueried_hit T BS BK ES nn c E s i i p la q t2 _ _ _ _ _ _ z wr hp hz.1 hz.2 y0 y1 h.tab ho.ent ho.cell ho.lES ho.d1 ho.d2 ho.d3 ho.d4 ho.d5 hnn his (by simp)).mono ?_
    rintro e w' ⟨⟨r, hr, hq⟩, ⟨lq', hT, he⟩, hk⟩
    exact ⟨⟨r, hr, hq.trans hC⟩, (h.next hT hk (by simpa using ⟨h.g1, ho.g4⟩) (by omega)).bel⟩
  · rintro T wr ⟨BS, BK, h⟩; exact hN ▸ h.bel
  · rintro T _ wr ⟨BS, BK, ES, c, E, h, _⟩; exact hN ▸ h.bel
  · rintro T wr ⟨BS, BK, ES, c, E, lq, h, _⟩; exact hN ▸ h.bel
  · rintro T wr ⟨BS, BK, ES, nn, c, E, la, L', q', lr, lq, f, lf, h, _⟩; exact hN ▸ h.bel
  · rintro T wr h; exact hN ▸ h
  · rw [his]
    simp
    intro h3
    rw [if_neg (by omega)]
  · exact Iff.rfl
end Go.Proofs.Qxb6615986aDoor
