import Derived.Test.Qxb6616015aFmtNewRes
namespace Go.Proofs.Qxb6616015aFmt
open Go.RowKit

def Z9 : Array Value := #[.string ⟨#[]⟩, .string ⟨#[]⟩, .map none, .int .u64 0, .int .i64 0, .pointer none, .string ⟨#[]⟩, .int .i64 0, .slice none 0 0]
def Z2 : Array Value := #[.string ⟨#[]⟩, .int .i64 0]
theorem Tryf.info70 : (Tryf.prog.info? 70).map (fun i => (i.zero, i.size, i.bytes)) = some (some (.agg Z9), 9, 120) := by kernel_rfl
theorem Tryf.info80 : (Tryf.prog.info? 80).map (fun i => (i.zero, i.size, i.bytes)) = some (some (.agg Z2), 2, 24) := by kernel_rfl
theorem make36 (n : Nat) (hn : n ≤ 1048576) (w : World) : (Instr.makeSlice 36 (.int .i64 (n : Int)) (.int .i64 (n : Int))).run Tryf.prog w = .ok (.slice (some ⟨w.heap.size, 0, none⟩) n n) (w.alloc (.cells (madeCells Z9 (n * 9)) 70)) := by
  obtain ⟨i, hi, hz, hs, hb⟩ := info_parts Tryf.info70
  have := run_make (P := Tryf.prog) w 36 70 i (.agg Z9) Tryf.underlying36 hi hz .i64 .i64 n n (by omega) (by omega) (by rw [hb]; omega) (by omega)
  rw [hs] at this
  exact this
theorem make66 (n : Nat) (hn : n ≤ 1048576) (w : World) : (Instr.makeSlice 66 (.int .i64 (n : Int)) (.int .i64 (n : Int))).run Tryf.prog w = .ok (.slice (some ⟨w.heap.size, 0, none⟩) n n) (w.alloc (.cells (madeCells Z2 (n * 2)) 80)) := by
  obtain ⟨i, hi, hz, hs, hb⟩ := info_parts Tryf.info80
  have := run_make (P := Tryf.prog) w 66 80 i (.agg Z2) Tryf.underlying66 hi hz .i64 .i64 n n (by omega) (by omega) (by rw [hb]; omega) (by omega)
  rw [hs] at this
  exact this

/-- toDocSet's loop: the first k services are in the document's row at block D = the old size + 2 -/
structure TD (w wr : World) (n k : Nat) (sv : Nat → Svc) : Prop where
  bel : Below w.heap.size w wr
  size : w.heap.size + 2 < wr.heap.size
  s0 : wr.cell? ⟨w.heap.size + 1, 0, none⟩ = some (.slice none 0 0)
  s1 : wr.cell? ⟨w.heap.size + 1, 1, none⟩ = some (.slice (some ⟨w.heap.size + 1 + 1, 0, none⟩) n n)
  s2 : wr.cell? ⟨w.heap.size + 1, 2, none⟩ = some (.slice none 0 0)
  s3 : wr.cell? ⟨w.heap.size + 1, 3, none⟩ = some (.slice none 0 0)
  r : ∀ t, t < 4 → wr.cell? ⟨w.heap.size, t, none⟩ = some (.slice none 0 0)
  rf : ∀ t, wr.frozen? ⟨w.heap.size, t, none⟩ = false
  got : ∀ t, t < n * 9 → ∃ v, wr.cell? ⟨w.heap.size + 1 + 1, t, none⟩ = some v
  fr : ∀ t, wr.frozen? ⟨w.heap.size + 1 + 1, t, none⟩ = false
  docs : ∀ i, i < k → DocS wr (w.heap.size + 1 + 1) i (sv i)

theorem addr_ne {g j t : Nat} (h : j ≠ t) : (⟨g, j, none⟩ : Addr) ≠ ⟨g, t, none⟩ := fun e => h (Addr.mk.inj e).2.1
theorem addr_ne' {g g' j t : Nat} (h : g ≠ g') : (⟨g, j, none⟩ : Addr) ≠ ⟨g', t, none⟩ := fun e => h (Addr.mk.inj e).1
/-- nine cells written one behind the other -/
def set9 (W : World) (D o : Nat) (v0 v1 v2 v3 v4 v5 v6 v7 v8 : Value) : World := ((((((((W.setCell ⟨D, o, none⟩ v0).setCell ⟨D, o + 1, none⟩ v1).setCell ⟨D, o + 2, none⟩ v2).setCell ⟨D, o + 3, none⟩ v3).setCell ⟨D, o + 4, none⟩ v4).setCell ⟨D, o + 5, none⟩ v5).setCell ⟨D, o + 6, none⟩ v6).setCell ⟨D, o + 7, none⟩ v7).setCell ⟨D, o + 8, none⟩ v8
theorem cell_set9_out (W : World) (D o : Nat) (v0 v1 v2 v3 v4 v5 v6 v7 v8 : Value) (t : Nat) (h : t < o ∨ o + 9 ≤ t) : (set9 W D o v0 v1 v2 v3 v4 v5 v6 v7 v8).cell? ⟨D, t, none⟩ = W.cell? ⟨D, t, none⟩ := by
  unfold set9
  rw [World.cell?_setCell_other _ _ _ _ (addr_ne (by omega)), World.cell?_setCell_other _ _ _ _ (addr_ne (by omega)), World.cell?_setCell_other _ _ _ _ (addr_ne (by omega)), World.cell?_setCell_other _ _ _ _ (addr_ne (by omega)), World.cell?_setCell_other _ _ _ _ (addr_ne (by omega)), World.cell?_setCell_other _ _ _ _ (addr_ne (by omega)), World.cell?_setCell_other _ _ _ _ (addr_ne (by omega)), World.cell?_setCell_other _ _ _ _ (addr_ne (by omega)), World.cell?_setCell_other _ _ _ _ (addr_ne (by omega))]
theorem cell_set9_other (W : World) (D o : Nat) (v0 v1 v2 v3 v4 v5 v6 v7 v8 : Value) (b t : Nat) (h : b ≠ D) : (set9 W D o v0 v1 v2 v3 v4 v5 v6 v7 v8).cell? ⟨b, t, none⟩ = W.cell? ⟨b, t, none⟩ := by
  unfold set9
  rw [World.cell?_setCell_other _ _ _ _ (addr_ne' (Ne.symm h)), World.cell?_setCell_other _ _ _ _ (addr_ne' (Ne.symm h)), World.cell?_setCell_other _ _ _ _ (addr_ne' (Ne.symm h)), World.cell?_setCell_other _ _ _ _ (addr_ne' (Ne.symm h)), World.cell?_setCell_other _ _ _ _ (addr_ne' (Ne.symm h)), World.cell?_setCell_other _ _ _ _ (addr_ne' (Ne.symm h)), World.cell?_setCell_other _ _ _ _ (addr_ne' (Ne.symm h)), World.cell?_setCell_other _ _ _ _ (addr_ne' (Ne.symm h)), World.cell?_setCell_other _ _ _ _ (addr_ne' (Ne.symm h))]
theorem got_set {W : World} {a b : Addr} {v : Value} (h : ∃ u, W.cell? b = some u) : ∃ u, (W.setCell a v).cell? b = some u := by
  obtain ⟨u, hu⟩ := h
  by_cases e : a = b
  · subst e; exact ⟨_, World.cell?_setCell_same _ _ _ hu⟩
  · exact ⟨u, by rw [World.cell?_setCell_other _ _ _ _ e]; exact hu⟩
theorem got_set9 (W : World) (D o : Nat) (v0 v1 v2 v3 v4 v5 v6 v7 v8 : Value) (b : Addr) (h : ∃ u, W.cell? b = some u) : ∃ u, (set9 W D o v0 v1 v2 v3 v4 v5 v6 v7 v8).cell? b = some u := by
  unfold set9
  exact got_set (got_set (got_set (got_set (got_set (got_set (got_set (got_set (got_set h))))))))
theorem val_set9 (W : World) (D o : Nat) (v0 v1 v2 v3 v4 v5 v6 v7 v8 : Value) (h : ∀ t, t < 9 → ∃ u, W.cell? ⟨D, o + t, none⟩ = some u) :
    (set9 W D o v0 v1 v2 v3 v4 v5 v6 v7 v8).cell? ⟨D, o, none⟩ = some v0 ∧ (set9 W D o v0 v1 v2 v3 v4 v5 v6 v7 v8).cell? ⟨D, o + 1, none⟩ = some v1 ∧ (set9 W D o v0 v1 v2 v3 v4 v5 v6 v7 v8).cell? ⟨D, o + 8, none⟩ = some v8 := by
  unfold set9
  refine ⟨?_, ?_, ?_⟩
  · rw [World.cell?_setCell_other _ _ _ _ (addr_ne (by omega)), World.cell?_setCell_other _ _ _ _ (addr_ne (by omega)), World.cell?_setCell_other _ _ _ _ (addr_ne (by omega)), World.cell?_setCell_other _ _ _ _ (addr_ne (by omega)), World.cell?_setCell_other _ _ _ _ (addr_ne (by omega)), World.cell?_setCell_other _ _ _ _ (addr_ne (by omega)), World.cell?_setCell_other _ _ _ _ (addr_ne (by omega)), World.cell?_setCell_other _ _ _ _ (addr_ne (by omega))]
    obtain ⟨u, hu⟩ := h 0 (by omega)
    exact World.cell?_setCell_same _ _ _ hu
  · rw [World.cell?_setCell_other _ _ _ _ (addr_ne (by omega)), World.cell?_setCell_other _ _ _ _ (addr_ne (by omega)), World.cell?_setCell_other _ _ _ _ (addr_ne (by omega)), World.cell?_setCell_other _ _ _ _ (addr_ne (by omega)), World.cell?_setCell_other _ _ _ _ (addr_ne (by omega)), World.cell?_setCell_other _ _ _ _ (addr_ne (by omega)), World.cell?_setCell_other _ _ _ _ (addr_ne (by omega))]
    obtain ⟨u, hu⟩ := got_set (a := ⟨D, o, none⟩) (v := v0) (h 1 (by omega))
    exact World.cell?_setCell_same _ _ _ hu
  · obtain ⟨u, hu⟩ := got_set (got_set (got_set (got_set (got_set (got_set (got_set (got_set (h 8 (by omega)))))))))
    exact World.cell?_setCell_same _ _ _ hu
theorem frozen_set9 (W : World) (D o : Nat) (v0 v1 v2 v3 v4 v5 v6 v7 v8 : Value) (b : Addr) : (set9 W D o v0 v1 v2 v3 v4 v5 v6 v7 v8).frozen? b = W.frozen? b := by
  unfold set9
  simp
theorem below_set9 {B : Nat} {w W : World} (h : Below B w W) (D o : Nat) (hD : B ≤ D) (v0 v1 v2 v3 v4 v5 v6 v7 v8 : Value) : Below B w (set9 W D o v0 v1 v2 v3 v4 v5 v6 v7 v8) := by
  unfold set9
  exact ((((((((h.setCell hD _).setCell hD _).setCell hD _).setCell hD _).setCell hD _).setCell hD _).setCell hD _).setCell hD _).setCell hD _
theorem size_set9 (W : World) (D o : Nat) (v0 v1 v2 v3 v4 v5 v6 v7 v8 : Value) : (set9 W D o v0 v1 v2 v3 v4 v5 v6 v7 v8).heap.size = W.heap.size := by
  unfold set9
  simp

theorem DocP.mono {W W' : World} {D : Nat} {q : Option Addr} {s : Svc} (h : DocP W D q s) (hc : ∀ b t, b ≠ D → W'.cell? ⟨b, t, none⟩ = W.cell? ⟨b, t, none⟩) : DocP W' D q s := by
  rcases h with h | ⟨pb, h1, h0, h2⟩
  · exact .inl h
  · exact .inr ⟨pb, h1, h0, fun j hj => by rw [hc _ _ h0, hc _ _ h0]; exact h2 j hj⟩

theorem TD.below {w wr W : World} {n k : Nat} {sv : Nat → Svc} (h : TD w wr n k sv) (hb : Below wr.heap.size wr W) : TD w W n k sv := by
  have hs := h.size
  have c : ∀ b t, b < wr.heap.size → W.cell? ⟨b, t, none⟩ = wr.cell? ⟨b, t, none⟩ := fun b t hlt => hb.cell (p := ⟨b, t, none⟩) hlt
  have f : ∀ b t, b < wr.heap.size → W.frozen? ⟨b, t, none⟩ = wr.frozen? ⟨b, t, none⟩ := fun b t hlt => hb.frozen (p := ⟨b, t, none⟩) hlt
  refine ⟨h.bel.trans (hb.mono h.bel.size), Nat.lt_of_lt_of_le hs hb.size, ?_, ?_, ?_, ?_, ?_, ?_, ?_, ?_, fun i hi => (h.docs i hi).below hb⟩
  · rw [c _ _ (by omega)]; exact h.s0
  · rw [c _ _ (by omega)]; exact h.s1
  · rw [c _ _ (by omega)]; exact h.s2
  · rw [c _ _ (by omega)]; exact h.s3
  · intro t ht; rw [c _ _ (by omega)]; exact h.r t ht
  · intro t; rw [f _ _ (by omega)]; exact h.rf t
  · intro t ht; rw [c _ _ (by omega)]; exact h.got t ht
  · intro t; rw [f _ _ (by omega)]; exact h.fr t

theorem TD.step {w wr : World} {n k : Nat} {sv : Nat → Svc} (h : TD w wr n k sv) (hk : k < n) {s : Svc} (hsk : s = sv k) (q : Option Addr) (c : Nat) (v2 v3 v4 v5 v6 v7 : Value) (hp : DocP wr (w.heap.size + 1 + 1) q s) :
    TD w (set9 wr (w.heap.size + 1 + 1) (k * 9) (.string s.nm) (.string s.ns) v2 v3 v4 v5 v6 v7 (.slice q s.pl c)) n (k + 1) sv := by
  have co := cell_set9_other wr (w.heap.size + 1 + 1) (k * 9) (.string s.nm) (.string s.ns) v2 v3 v4 v5 v6 v7 (.slice q s.pl c)
  have ci := cell_set9_out wr (w.heap.size + 1 + 1) (k * 9) (.string s.nm) (.string s.ns) v2 v3 v4 v5 v6 v7 (.slice q s.pl c)
  have cg := got_set9 wr (w.heap.size + 1 + 1) (k * 9) (.string s.nm) (.string s.ns) v2 v3 v4 v5 v6 v7 (.slice q s.pl c)
  have cf := frozen_set9 wr (w.heap.size + 1 + 1) (k * 9) (.string s.nm) (.string s.ns) v2 v3 v4 v5 v6 v7 (.slice q s.pl c)
  refine ⟨below_set9 h.bel _ _ (by omega) _ _ _ _ _ _ _ _ _, by rw [size_set9]; exact h.size, ?_, ?_, ?_, ?_, ?_, ?_, ?_, ?_, fun i hi => ?_⟩
  · rw [co _ _ (by omega)]; exact h.s0
  · rw [co _ _ (by omega)]; exact h.s1
  · rw [co _ _ (by omega)]; exact h.s2
  · rw [co _ _ (by omega)]; exact h.s3
  · intro t ht; rw [co _ _ (by omega)]; exact h.r t ht
  · intro t; rw [cf]; exact h.rf t
  · intro t ht; exact cg _ (h.got t ht)
  · intro t; rw [cf]; exact h.fr t
  · by_cases e : i = k
    · subst e
      obtain ⟨a0, a1, a8⟩ := val_set9 wr (w.heap.size + 1 + 1) (i * 9) (.string s.nm) (.string s.ns) v2 v3 v4 v5 v6 v7 (.slice q s.pl c) (fun t ht => h.got (i * 9 + t) (by omega))
      rw [← hsk]
      exact ⟨a0, a1, q, c, a8, hp.mono co⟩
    · obtain ⟨d0, d1, q', c', d8, P⟩ := h.docs i (by omega)
      exact ⟨by rw [ci _ (by omega)]; exact d0, by rw [ci _ (by omega)]; exact d1, q', c', by rw [ci _ (by omega)]; exact d8, P.mono co⟩

/-- a row of ports at block B, being filled: the first j are done -/
structure FP (W wi : World) (B pl j : Nat) (pn : Nat → ByteArray) (pp : Nat → Int) : Prop where
  bel : Below B W wi
  done : ∀ t, t < j → wi.cell? ⟨B, t * 2, none⟩ = some (.string (pn t)) ∧ wi.cell? ⟨B, t * 2 + 1, none⟩ = some (.int .i64 (pp t))
  got : ∀ t, t < pl * 2 → ∃ v, wi.cell? ⟨B, t, none⟩ = some v
  fr : ∀ t, wi.frozen? ⟨B, t, none⟩ = false
theorem FP.drew {W wi : World} {B pl j : Nat} {pn : Nat → ByteArray} {pp : Nat → Int} (h : FP W wi B pl j pn pp) : FP W wi.drew B pl j pn pp := ⟨h.bel.drew, h.done, h.got, h.fr⟩
theorem FP.step {W wi : World} {B pl j : Nat} {pn : Nat → ByteArray} {pp : Nat → Int} (h : FP W wi B pl j pn pp) (hj : j < pl) :
    FP W ((wi.setCell ⟨B, j * 2, none⟩ (.string (pn j))).setCell ⟨B, j * 2 + 1, none⟩ (.int .i64 (pp j))) B pl (j + 1) pn pp := by
  refine ⟨(h.bel.setCell (Nat.le_refl _) _).setCell (Nat.le_refl _) _, fun t ht => ?_, fun t ht => got_set (got_set (h.got t ht)), fun t => by simpa using h.fr t⟩
  by_cases e : t = j
  · subst e
    obtain ⟨u, hu⟩ := h.got (t * 2) (by omega)
    obtain ⟨u', hu'⟩ := got_set (a := ⟨B, t * 2, none⟩) (v := .string (pn t)) (h.got (t * 2 + 1) (by omega))
    exact ⟨by rw [World.cell?_setCell_other _ _ _ _ (addr_ne (by omega))]; exact World.cell?_setCell_same _ _ _ hu, World.cell?_setCell_same _ _ _ hu'⟩
  · obtain ⟨d0, d1⟩ := h.done t (by omega)
    exact ⟨by rw [World.cell?_setCell_other _ _ _ _ (addr_ne (by omega)), World.cell?_setCell_other _ _ _ _ (addr_ne (by omega))]; exact d0, by rw [World.cell?_setCell_other _ _ _ _ (addr_ne (by omega)), World.cell?_setCell_other _ _ _ _ (addr_ne (by omega))]; exact d1⟩
theorem madeCells_got (z : Array Value) (n i : Nat) (h : i < n) : ∃ v, (madeCells z n)[i]? = some v := by
  refine ⟨_, Array.getElem?_eq_getElem (by rw [size_madeCells]; exact h)⟩
theorem FP.first {W : World} {B pl : Nat} (hB : B = W.heap.size) (z : Array Value) (e : TypeId) (pn : Nat → ByteArray) (pp : Nat → Int) : FP W (W.alloc (.cells (madeCells z (pl * 2)) e)) B pl 0 pn pp := by
  subst hB
  refine ⟨(Below.refl _ _).alloc (Nat.le_refl _) _, fun t ht => by omega, fun t ht => ?_, fun t => by simp [go_sem]⟩
  rw [World.cell?_alloc_at _ _ _ _ rfl]
  exact madeCells_got _ _ _ ht

theorem TD.first (w : World) (n : Nat) (sv : Nat → Svc) :
    TD w (((w.alloc (.cells #[.slice none 0 0, .slice none 0 0, .slice none 0 0, .slice none 0 0] 40)).alloc (.cells #[.slice none 0 0, .slice (some ⟨w.heap.size + 1 + 1, 0, none⟩) n n, .slice none 0 0, .slice none 0 0] 40)).alloc (.cells (madeCells Z9 (n * 9)) 70)) n 0 sv := by
  refine ⟨?_, by simp, by go_simp, by go_simp, by go_simp, by go_simp, ?_, ?_, ?_, ?_, fun i hi => by omega⟩
  · exact (((Below.refl _ w).alloc (Nat.le_refl _) _).alloc (by simp) _).alloc (by simp; omega) _
  · intro t ht
    rw [World.cell?_alloc_past _ _ _ (by simp; omega), World.cell?_alloc_past _ _ _ (by simp), World.cell?_alloc_at _ _ _ _ rfl]
    match t, ht with
    | 0, _ => rfl
    | 1, _ => rfl
    | 2, _ => rfl
    | 3, _ => rfl
  · intro t; go_simp
  · intro t ht
    rw [World.cell?_alloc_at _ _ _ _ (by simp)]
    exact madeCells_got _ _ _ ht
  · intro t; go_simp

set_option maxHeartbeats 1000000 in
theorem toDoc_some (x : Addr) (n cap : Nat) (sv : Nat → Svc) (w : World) (hn : n ≤ 1048576) (hs : Svcs w (some x) n sv) (hp : ∀ i, i < n → (sv i).pl ≤ 1048576) :
    Calls Tryf.prog 11 #[.slice (some x) n cap] w fun e w' => e = .returned (.agg #[.slice none 0 0, .slice (some ⟨w.heap.size + 1 + 1, 0, none⟩) n n, .slice none 0 0, .slice none 0 0]) ∧ Below w.heap.size w w' ∧ ∀ i, i < n → DocS w' (w.heap.size + 1 + 1) i (sv i) := by
  have he := fun (w : World) (a : Option Addr) (n c : Nat) => Lib.run_eql_slice_nil (P := Tryf.prog) w 22 29 a n c 0 0 Tryf.underlying22
  have hne := fun (w : World) (a : Option Addr) (n c : Nat) => run_neq_slice_nil_any (P := Tryf.prog) w 27 46 a n c 0 0 Tryf.underlying27
  have hmk := make36 n hn
  go_enter Tryf.func11, Tryf.ntmps11
  go_wp2
  clear he hmk
  go_loopw [4] (fun i wr => ∃ k : Nat, k ≤ n ∧ i = .int .i64 k ∧ TD w wr n k sv) (fun i _ => n - (intOf i).toNat)
  case atStart => exact ⟨0, by omega, rfl, TD.first w n sv⟩
  case round =>
    obtain ⟨k, hk, rfl, T⟩ := hrel
    obtain ⟨wo, rfl⟩ : ∃ wo : World, wo = wr := ⟨_, rfl⟩
    by_cases hlt : k < n
    · have hs' := hs.below T.bel
      have HS : Hid (Svcs w (some x) n sv) := hs
      have HP : Hid (∀ i, i < n → (sv i).pl ≤ 1048576) := hp
      clear hs hp
      rcases hs' with h0 | ⟨b, off, hx, hb, hc⟩
      · omega
      obtain rfl : x = ⟨b, off, none⟩ := by simpa using hx
      obtain ⟨c0, c1, c2, P⟩ := hc k hlt
      have hpk := HP.out k hlt
      clear hc hx
      obtain ⟨s, hsk⟩ : ∃ s, s = sv k := ⟨_, rfl⟩
      rw [← hsk] at c0 c1 c2 P hpk
      have HK : Hid (s = sv k) := hsk
      clear hsk
      obtain ⟨sns, snm, pa, pl, pc, pn, pp⟩ := s
      simp only at c0 c1 c2 hpk
      have s1 := T.s1
      have hsz := T.size
      have hz1 : w.heap.size + 1 < wo.heap.size := by omega
      have hz2 : w.heap.size < wo.heap.size := by omega
      have hz3 : w.heap.size + 1 + 1 < wo.heap.size := by omega
      have hz4 : w.heap.size + 1 + 1 < wo.heap.size + 1 := by omega
      have hz5 : w.heap.size + 1 < wo.heap.size + 1 := by omega
      have hz6 : w.heap.size < wo.heap.size + 1 := by omega
      obtain ⟨v0, g0⟩ := T.got (k * 9) (by omega)
      obtain ⟨v1, g1⟩ := T.got (k * 9 + 1) (by omega)
      obtain ⟨v2, g2⟩ := T.got (k * 9 + 2) (by omega)
      obtain ⟨v3, g3⟩ := T.got (k * 9 + 3) (by omega)
      obtain ⟨v4, g4⟩ := T.got (k * 9 + 4) (by omega)
      obtain ⟨v5, g5⟩ := T.got (k * 9 + 5) (by omega)
      obtain ⟨v6, g6⟩ := T.got (k * 9 + 6) (by omega)
      obtain ⟨v7, g7⟩ := T.got (k * 9 + 7) (by omega)
      obtain ⟨v8, g8⟩ := T.got (k * 9 + 8) (by omega)
      have hfr := T.fr
      rcases pa with _ | y
      · obtain rfl : pl = 0 := by
          rcases P with h | ⟨_, _, h, _⟩
          · exact h
          · cases h
        go_wp2
        go_roundw
        case rel =>
          refine ⟨k + 1, by omega, by go_num, ?_⟩
          have T1 := T.step hlt HK.out none 0 (.map none) (.int .u64 0) (.int .i64 0) (.pointer none) (.string ⟨#[]⟩) (.int .i64 0) (.inl rfl)
          exact T1.below (((Below.refl _ _).alloc (Nat.le_refl _) _).alloc (by simp) _)
        case measure => simp [intOf]; omega
      · have hmk2 := make66 pl hpk
        have hW : Below wo.heap.size wo ((wo.alloc (.cells #[.string sns, .string snm, .slice (some y) pl pc] 29)).alloc (.cells #[.string snm, .string sns, .map none, .int .u64 0, .int .i64 0, .pointer none, .string ⟨#[]⟩, .int .i64 0, .slice none 0 0] 70)) := ((Below.refl _ _).alloc (Nat.le_refl _) _).alloc (by simp) _
        have F0 := FP.first (W := (wo.alloc (.cells #[.string sns, .string snm, .slice (some y) pl pc] 29)).alloc (.cells #[.string snm, .string sns, .map none, .int .u64 0, .int .i64 0, .pointer none, .string ⟨#[]⟩, .int .i64 0, .slice none 0 0] 70)) (B := wo.heap.size + 1 + 1) (pl := pl) (by simp) Z2 80 pn pp
        go_wp2
        clear hmk2
        clear g0 g1 g2 g3 g4 g5 g6 g7 g8 hfr s1
        go_loopw [8] (fun i wi => ∃ j : Nat, j ≤ pl ∧ i = .int .i64 j ∧ FP ((wo.alloc (.cells #[.string sns, .string snm, .slice (some y) pl pc] 29)).alloc (.cells #[.string snm, .string sns, .map none, .int .u64 0, .int .i64 0, .pointer none, .string ⟨#[]⟩, .int .i64 0, .slice none 0 0] 70)) wi (wo.heap.size + 1 + 1) pl j pn pp) (fun i _ => pl - (intOf i).toNat)
        case atStart => exact ⟨0, by omega, rfl, F0⟩
        case round =>
          clear F0
          obtain ⟨j, hj, rfl, F⟩ := hrel
          have q2 : wr.cell? ⟨wo.heap.size, 2, none⟩ = some (.slice (some y) pl pc) := by
            rw [F.bel.cell (p := ⟨wo.heap.size, 2, none⟩) (by show wo.heap.size < _; omega)]; go_simp
          by_cases hjl : j < pl
          · rcases P with h0 | ⟨pb, po, hy, hpb, hpc⟩
            · simp only at h0; omega
            obtain rfl : y = ⟨pb, po, none⟩ := by simpa using hy
            obtain ⟨p0, p1⟩ := hpc j hjl
            simp only at p0 p1
            clear hpc hy
            rw [← hW.cell (p := ⟨pb, _, none⟩) hpb] at p0 p1
            rw [← F.bel.cell (p := ⟨pb, _, none⟩) (by show pb < _; omega)] at p0 p1
            obtain ⟨u0, e0⟩ := F.got (j * 2) (by omega)
            obtain ⟨u1, e1⟩ := F.got (j * 2 + 1) (by omega)
            have hfr2 := F.fr
            clear hW
            go_wp2
            go_region
            all_goals
              go_wp2
              go_roundw
              case rel => first | exact ⟨j + 1, by omega, by go_num, F.step hjl⟩ | exact ⟨j + 1, by omega, by go_num, (F.step hjl).drew⟩ | ((repeat apply Exists.intro); exact ⟨⟨j + 1, by omega, by go_num, (F.step hjl).drew⟩, rfl⟩)
              case measure => simp [intOf]; omega
          · have hWi : Below wo.heap.size wo wr := hW.trans (F.bel.mono (by omega))
            have T1 := T.below hWi
            have hjj : pl = j := by omega
            subst hjj
            have DP : DocP (wr.setCell ⟨wo.heap.size + 1, 8, none⟩ (.slice (some ⟨wo.heap.size + 1 + 1, 0, none⟩) pl pl)) (w.heap.size + 1 + 1) (some ⟨wo.heap.size + 1 + 1, 0, none⟩) ⟨sns, snm, some y, pl, pc, pn, pp⟩ :=
              .inr ⟨_, rfl, by omega, fun t ht => by
                rw [World.cell?_setCell_other _ _ _ _ (addr_ne' (by omega)), World.cell?_setCell_other _ _ _ _ (addr_ne' (by omega))]
                exact F.done t ht⟩
            have T2 := (T.below (hWi.setCell (p := ⟨wo.heap.size + 1, 8, none⟩) (Nat.le_succ _) (.slice (some ⟨wo.heap.size + 1 + 1, 0, none⟩) pl pl))).step hlt HK.out (some ⟨wo.heap.size + 1 + 1, 0, none⟩) pl (.map none) (.int .u64 0) (.int .i64 0) (.pointer none) (.string ⟨#[]⟩) (.int .i64 0) DP
            have s1 := T1.s1
            have hfr := T1.fr
            obtain ⟨v0, g0⟩ := T1.got (k * 9) (by omega)
            obtain ⟨v1, g1⟩ := T1.got (k * 9 + 1) (by omega)
            obtain ⟨v2, g2⟩ := T1.got (k * 9 + 2) (by omega)
            obtain ⟨v3, g3⟩ := T1.got (k * 9 + 3) (by omega)
            obtain ⟨v4, g4⟩ := T1.got (k * 9 + 4) (by omega)
            obtain ⟨v5, g5⟩ := T1.got (k * 9 + 5) (by omega)
            obtain ⟨v6, g6⟩ := T1.got (k * 9 + 6) (by omega)
            obtain ⟨v7, g7⟩ := T1.got (k * 9 + 7) (by omega)
            obtain ⟨v8, g8⟩ := T1.got (k * 9 + 8) (by omega)
            have k0 : wr.cell? ⟨wo.heap.size + 1, 0, none⟩ = some (.string snm) := by rw [F.bel.cell (p := ⟨wo.heap.size + 1, 0, none⟩) (by show wo.heap.size + 1 < _; omega)]; go_simp
            have k1 : wr.cell? ⟨wo.heap.size + 1, 1, none⟩ = some (.string sns) := by rw [F.bel.cell (p := ⟨wo.heap.size + 1, 1, none⟩) (by show wo.heap.size + 1 < _; omega)]; go_simp
            have k2 : wr.cell? ⟨wo.heap.size + 1, 2, none⟩ = some (.map none) := by rw [F.bel.cell (p := ⟨wo.heap.size + 1, 2, none⟩) (by show wo.heap.size + 1 < _; omega)]; go_simp
            have k3 : wr.cell? ⟨wo.heap.size + 1, 3, none⟩ = some (.int .u64 0) := by rw [F.bel.cell (p := ⟨wo.heap.size + 1, 3, none⟩) (by show wo.heap.size + 1 < _; omega)]; go_simp
            have k4 : wr.cell? ⟨wo.heap.size + 1, 4, none⟩ = some (.int .i64 0) := by rw [F.bel.cell (p := ⟨wo.heap.size + 1, 4, none⟩) (by show wo.heap.size + 1 < _; omega)]; go_simp
            have k5 : wr.cell? ⟨wo.heap.size + 1, 5, none⟩ = some (.pointer none) := by rw [F.bel.cell (p := ⟨wo.heap.size + 1, 5, none⟩) (by show wo.heap.size + 1 < _; omega)]; go_simp
            have k6 : wr.cell? ⟨wo.heap.size + 1, 6, none⟩ = some (.string ⟨#[]⟩) := by rw [F.bel.cell (p := ⟨wo.heap.size + 1, 6, none⟩) (by show wo.heap.size + 1 < _; omega)]; go_simp
            have k7 : wr.cell? ⟨wo.heap.size + 1, 7, none⟩ = some (.int .i64 0) := by rw [F.bel.cell (p := ⟨wo.heap.size + 1, 7, none⟩) (by show wo.heap.size + 1 < _; omega)]; go_simp
            have k8 : wr.cell? ⟨wo.heap.size + 1, 8, none⟩ = some (.slice none 0 0) := by rw [F.bel.cell (p := ⟨wo.heap.size + 1, 8, none⟩) (by show wo.heap.size + 1 < _; omega)]; go_simp
            have kf : wr.frozen? ⟨wo.heap.size + 1, 8, none⟩ = false := by rw [F.bel.frozen (p := ⟨wo.heap.size + 1, 8, none⟩) (by show wo.heap.size + 1 < _; omega)]; go_simp
            have hn1 : ¬ w.heap.size = wo.heap.size := by omega
            have hn2 : ¬ wo.heap.size = w.heap.size := by omega
            have hn3 : ¬ w.heap.size + 1 = wo.heap.size := by omega
            have hn4 : ¬ wo.heap.size = w.heap.size + 1 := by omega
            clear hW DP F T hWi
            go_wp2
            go_roundw
            case rel => exact ⟨k + 1, by omega, by go_num, T2⟩
            case measure => simp [intOf]; omega
    · have hkk : n = k := by omega
      subst hkk
      have s0 := T.s0
      have s1 := T.s1
      have s2 := T.s2
      have s3 := T.s3
      have r0 := T.r 0 (by omega)
      have r1 := T.r 1 (by omega)
      have r2 := T.r 2 (by omega)
      have r3 := T.r 3 (by omega)
      have rf := T.rf
      go_wp2
      refine bodyPost_ret (v := .agg #[.slice none 0 0, .slice (some ⟨w.heap.size + 1 + 1, 0, none⟩) n n, .slice none 0 0, .slice none 0 0]) (by simp [results, Tryf.results11, go_sem, r0, r1, r2, r3]) rfl ⟨rfl, ?_, fun i hi => ?_⟩
      · exact (((T.bel.setCell (Nat.le_refl _) _).setCell (Nat.le_refl _) _).setCell (Nat.le_refl _) _).setCell (Nat.le_refl _) _
      · have hc : ∀ b t, b ≠ w.heap.size → ((((wo.setCell ⟨w.heap.size, 0, none⟩ (.slice none 0 0)).setCell ⟨w.heap.size, 1, none⟩ (.slice (some ⟨w.heap.size + 1 + 1, 0, none⟩) n n)).setCell ⟨w.heap.size, 2, none⟩ (.slice none 0 0)).setCell ⟨w.heap.size, 3, none⟩ (.slice none 0 0)).cell? ⟨b, t, none⟩ = wo.cell? ⟨b, t, none⟩ := fun b t hb => by
          rw [World.cell?_setCell_other _ _ _ _ (addr_ne' (Ne.symm hb)), World.cell?_setCell_other _ _ _ _ (addr_ne' (Ne.symm hb)), World.cell?_setCell_other _ _ _ _ (addr_ne' (Ne.symm hb)), World.cell?_setCell_other _ _ _ _ (addr_ne' (Ne.symm hb))]
        obtain ⟨d0, d1, q, c, d8, P⟩ := T.docs i hi
        refine ⟨by rw [hc _ _ (by omega)]; exact d0, by rw [hc _ _ (by omega)]; exact d1, q, c, by rw [hc _ _ (by omega)]; exact d8, ?_⟩
        rcases P with h | ⟨pb, h1, h0, h2⟩
        · exact .inl h
        · by_cases hz : (sv i).pl = 0
          · exact .inl hz
          · have hpb : pb ≠ w.heap.size := by
              intro e
              subst e
              have := (h2 0 (by omega)).1
              rw [show 0 * 2 = 0 from rfl, r0] at this
              cases this
            exact .inr ⟨pb, h1, h0, fun j hj => by rw [hc _ _ hpb, hc _ _ hpb]; exact h2 j hj⟩

set_option maxHeartbeats 400000 in
theorem toDoc_nil (cap : Nat) (w : World) :
    Calls Tryf.prog 11 #[.slice none 0 cap] w fun e w' => e = .returned (.agg #[.slice none 0 0, .slice none 0 0, .slice none 0 0, .slice none 0 0]) ∧ Below w.heap.size w w' := by
  have he := fun (w : World) (a : Option Addr) (n c : Nat) => Lib.run_eql_slice_nil (P := Tryf.prog) w 22 29 a n c 0 0 Tryf.underlying22
  go_enter Tryf.func11, Tryf.ntmps11
  go_wp2
  exact bodyPost_ret (v := .agg #[.slice none 0 0, .slice none 0 0, .slice none 0 0, .slice none 0 0]) (by simp [results, Tryf.results11, go_sem]) rfl ⟨rfl, ((Below.refl _ _).alloc (Nat.le_refl _) _).alloc (by simp) _⟩

/-- toDocSet's answer -/
def DS (n : Nat) (sv : Nat → Svc) (w' : World) (e : Ending) : Prop :=
  ∃ q c D, e = .returned (.agg #[.slice none 0 0, .slice q n c, .slice none 0 0, .slice none 0 0]) ∧ (n = 0 ∨ q = some ⟨D, 0, none⟩) ∧ ∀ i, i < n → DocS w' D i (sv i)
theorem toDoc_any (a : Option Addr) (n cap : Nat) (sv : Nat → Svc) (w : World) (hn : n ≤ 1048576) (h0 : a = none → n = 0) (hs : Svcs w a n sv) (hp : ∀ i, i < n → (sv i).pl ≤ 1048576) :
    Calls Tryf.prog 11 #[.slice a n cap] w fun e w' => DS n sv w' e ∧ Below w.heap.size w w' := by
  rcases a with _ | x
  · obtain rfl := h0 rfl
    exact (toDoc_nil cap w).mono fun e w' ⟨he, hb⟩ => ⟨⟨none, 0, 0, he, .inl rfl, fun i hi => by omega⟩, hb⟩
  · exact (toDoc_some x n cap sv w hn hs hp).mono fun e w' ⟨he, hb, hd⟩ => ⟨⟨_, n, _, he, .inr rfl, hd⟩, hb⟩
end Go.Proofs.Qxb6616015aFmt
