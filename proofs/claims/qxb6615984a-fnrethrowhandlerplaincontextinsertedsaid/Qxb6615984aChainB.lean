import Derived.Test.Qxb6615984aChainA
import Derived.Deep.RegionWith
namespace Go.Proofs.Qxb6615984a
open Go.RowKit

theorem Try.info5 : (Try.prog.info? 5).map (fun i => (i.zero, i.size, i.bytes)) = some (some (.int .u8 0), 1, 1) := by kernel_rfl
theorem Try.info26 : (Try.prog.info? 26).map (fun i => (i.zero, i.size, i.bytes)) = some (some (.pointer none), 1, 8) := by kernel_rfl
theorem madeCells_get (z : Value) (n i : Nat) (h : i < n) : (madeCells #[z] n)[i]? = some z := by
  simp [madeCells, h, Nat.mod_one]

theorem addr_ne {g j t : Nat} (h : j ≠ t) : (⟨g, j, none⟩ : Addr) ≠ ⟨g, t, none⟩ := fun e => h (Addr.mk.inj e).2.1
theorem addr_ne' {g g' j t : Nat} (h : g ≠ g') : (⟨g, j, none⟩ : Addr) ≠ ⟨g', t, none⟩ := fun e => h (Addr.mk.inj e).1

/-- what is known of the kinds that came in -/
def Kin (w : World) (a0 : Option Addr) (n : Nat) (kd : Nat → Int) : Prop :=
  n = 0 ∨ ∃ b off, a0 = some ⟨b, off, none⟩ ∧ b < w.heap.size ∧ ∀ i, i < n → w.cell? ⟨b, off + i, none⟩ = some (.int .u8 (kd i))

/-- a row of m cells at block g, being filled: the first j are done -/
structure Fill (w wr : World) (g m j : Nat) (f : Nat → Value) : Prop where
  bel : Below w.heap.size w wr
  size : wr.heap.size = g + 1
  done : ∀ t, t < j → wr.cell? ⟨g, t, none⟩ = some (f t)
  got : ∀ t, t < m → ∃ v, wr.cell? ⟨g, t, none⟩ = some v
  fr : ∀ t, wr.frozen? ⟨g, t, none⟩ = false

theorem Fill.store {w wr : World} {g m j : Nat} {f : Nat → Value} {v : Value} (h : Fill w wr g m j f) (hj : j < m) (hv : v = f j) (hg : w.heap.size ≤ g) :
    Fill w (wr.setCell ⟨g, j, none⟩ v) g m (j + 1) f := by
  refine ⟨h.bel.setCell hg _, by simpa using h.size, fun t ht => ?_, fun t ht => ?_, fun t => by simpa using h.fr t⟩
  · by_cases e : t = j
    · subst e
      obtain ⟨u, hu⟩ := h.got t hj
      rw [World.cell?_setCell_same _ _ _ hu, hv]
    · rw [World.cell?_setCell_other _ _ _ _ (addr_ne (fun h => e h.symm))]
      exact h.done t (by omega)
  · by_cases e : t = j
    · subst e
      obtain ⟨u, hu⟩ := h.got t hj
      exact ⟨_, World.cell?_setCell_same _ _ _ hu⟩
    · rw [World.cell?_setCell_other _ _ _ _ (addr_ne (fun h => e h.symm))]
      exact h.got t ht

theorem Fill.first (w : World) (m : Nat) (z : Value) (e : TypeId) (f : Nat → Value) : Fill w (w.alloc (.cells (madeCells #[z] m) e)) w.heap.size m 0 f :=
  ⟨(Below.refl _ _).alloc (Nat.le_refl _) _, by simp, fun t ht => absurd ht (Nat.not_lt_zero _), fun t ht => ⟨_, by rw [World.cell?_alloc_at _ _ _ _ rfl, madeCells_get _ _ _ ht]⟩, fun t => by simp [go_sem]⟩

theorem heap_new (w : World) (o : Obj) : (w.alloc o).heap[w.heap.size]? = some o := by
  show (w.heap.push o)[w.heap.size]? = some o
  simp

/-- the contexts, being made from the outermost inward: those behind z are made -/
structure Links (w wr : World) (m : Nat) (K : Nat → Int) (z : Int) : Prop where
  bel : Below w.heap.size w wr
  size : (wr.heap.size : Int) = w.heap.size + 1 + m - z
  ks : ∀ t, t < m → wr.cell? ⟨w.heap.size, t, none⟩ = some (.int .u8 (K t))
  ps : ∀ t : Nat, z < t → t ≤ m → wr.cell? ⟨w.heap.size + 1, t, none⟩ = some (.pointer (ptr (w.heap.size + 2) m t))
  got : ∀ t, t ≤ m → ∃ v, wr.cell? ⟨w.heap.size + 1, t, none⟩ = some v
  fr : ∀ t, wr.frozen? ⟨w.heap.size + 1, t, none⟩ = false
  cx : ∀ t : Nat, z < t → t < m → wr.heap[bk (w.heap.size + 2) m t]? = some (ctxObj (ptr (w.heap.size + 2) m (t + 1)) (K t))

theorem Links.drew {w wr : World} {m : Nat} {K : Nat → Int} {z : Int} (h : Links w wr m K z) : Links w wr.drew m K z :=
  ⟨h.bel.drew, h.size, h.ks, h.ps, h.got, h.fr, h.cx⟩

theorem Links.first {w wr : World} {m : Nat} {K : Nat → Int} (h : Fill w wr w.heap.size m m (fun t => .int .u8 (K t))) :
    Links w (wr.alloc (.cells (madeCells #[.pointer none] (m + 1)) 26)) m K ((m : Int) - 1) := by
  have hs := h.size
  refine ⟨h.bel.alloc (by omega) _, by simp; omega, fun t ht => ?_, fun t h1 h2 => ?_, fun t ht => ?_, fun t => ?_, fun t h1 h2 => by omega⟩
  · rw [World.cell?_alloc_past _ _ _ (by omega)]; exact h.done t ht
  · rw [World.cell?_alloc_at _ _ _ _ hs.symm, madeCells_get _ _ _ (by omega), ptr_ge (by omega)]
  · exact ⟨_, by rw [World.cell?_alloc_at _ _ _ _ hs.symm, madeCells_get _ _ _ (by omega)]⟩
  · rw [← hs]; simp [go_sem]

theorem Links.step {w wr : World} {m : Nat} {K : Nat → Int} {i : Nat} (h : Links w wr m K i) (hi : i < m) :
    Links w ((wr.alloc (ctxObj (ptr (w.heap.size + 2) m (i + 1)) (K i))).setCell ⟨w.heap.size + 1, i, none⟩ (.pointer (Option.some ⟨wr.heap.size, 0, none⟩))) m K ((i : Int) - 1) := by
  have hs := h.size
  have hb : wr.heap.size = bk (w.heap.size + 2) m i := by unfold bk; omega
  refine ⟨(h.bel.alloc (by omega) _).setCell (Nat.le_succ _) _, by simp; omega, fun t ht => ?_, fun t h1 h2 => ?_, fun t ht => ?_, fun t => ?_, fun t h1 h2 => ?_⟩
  · rw [World.cell?_setCell_other _ _ _ _ (addr_ne' (by omega)), World.cell?_alloc_past _ _ _ (by omega)]; exact h.ks t ht
  · by_cases e : t = i
    · subst e
      obtain ⟨v, hv⟩ := h.got t h2
      rw [World.cell?_setCell_same _ _ _ (u := v) (by rw [World.cell?_alloc_past _ _ _ (by omega)]; exact hv), ptr_lt hi, hb]
    · rw [World.cell?_setCell_other _ _ _ _ (addr_ne (fun h => e h.symm)), World.cell?_alloc_past _ _ _ (by omega)]; exact h.ps t (by omega) h2
  · by_cases e : t = i
    · subst e
      obtain ⟨v, hv⟩ := h.got t ht
      exact ⟨_, World.cell?_setCell_same _ _ _ (u := v) (by rw [World.cell?_alloc_past _ _ _ (by omega)]; exact hv)⟩
    · rw [World.cell?_setCell_other _ _ _ _ (addr_ne (fun h => e h.symm)), World.cell?_alloc_past _ _ _ (by omega)]; exact h.got t ht
  · rw [World.frozen?_setCell]; exact (Below.refl wr.heap.size wr |>.alloc (Nat.le_refl _) _).frozen (p := ⟨w.heap.size + 1, t, none⟩) (by show w.heap.size + 1 < wr.heap.size; omega) ▸ h.fr t
  · have hne : w.heap.size + 1 ≠ bk (w.heap.size + 2) m t := by unfold bk; omega
    rw [Below.heap_setCell _ _ _ _ (fun h => hne h.symm)]
    by_cases e : t = i
    · subst e
      rw [← hb]
      exact heap_new _ _
    · have hlt : bk (w.heap.size + 2) m t < wr.heap.size := by unfold bk; omega
      rw [Below.heap_alloc _ _ _ hlt]
      exact h.cx t (by omega) h2

theorem Links.step' {w wr : World} {m : Nat} {K : Nat → Int} {i : Nat} (h : Links w wr m K i) (hi : i < m) :
    Links w ((wr.setCell ⟨w.heap.size + 1, i, none⟩ (.pointer (Option.some ⟨wr.heap.size, 0, none⟩))).alloc (ctxObj (ptr (w.heap.size + 2) m (i + 1)) (K i))) m K ((i : Int) - 1) := by
  have hs := h.size
  have := h.step hi
  rwa [World.setCell_alloc_past _ _ _ _ (by omega)] at this

set_option maxHeartbeats 400000 in
theorem chain_neg (a0 : Option Addr) (n cap : Nat) (kd : Nat → Int) (w : World) (hn : n ≤ 4096) (hk : Kin w a0 n kd) :
    Calls Try.prog 8 #[.slice a0 n cap, .int .i64 (-1)] w fun e w' => e = .returned (.slice (some ⟨w.heap.size + 1, 0, none⟩) (n + 1) (n + 1)) ∧ Links w w' n kd (-1) := by
  have hmk := fun w => run_make_row' (P := Try.prog) 22 5 (.int .u8 0) 1 Try.underlying22 Try.info5 rfl .i64 .i64 n (by omega) (by omega) w
  have hmk2 : ∀ w, (Instr.makeSlice 24 (.int .i64 ((n : Int) + 1)) (.int .i64 ((n : Int) + 1))).run Try.prog w = .ok (.slice (some ⟨w.heap.size, 0, none⟩) (n + 1) (n + 1)) (w.alloc (.cells (madeCells #[.pointer none] (n + 1)) 26)) := fun w => by
    have := run_make_row' (P := Try.prog) 24 26 (.pointer none) 8 Try.underlying24 Try.info26 rfl .i64 .i64 (n + 1) (by omega) (by omega) w
    rwa [Int.natCast_add] at this
  go_enter Try.func8, Try.ntmps8
  go_wp2
  go_loopw [8, 9] (fun j i wr => ∃ k : Nat, k ≤ n + 1 ∧ i = .int .i64 k ∧ j = .int .i64 (if k ≤ n then k else n : Nat) ∧ Fill w wr w.heap.size n (if k ≤ n then k else n) (fun t => .int .u8 (kd t))) (fun _ i _ => n + 1 - (intOf i).toNat)
  case atStart => exact ⟨0, by omega, by simp, by simp, by simpa using Fill.first w n _ _ _⟩
  case round =>
    obtain ⟨k, hkn, rfl, rfl, F⟩ := hrel
    have hsz := F.size
    have hfr := F.fr
    by_cases hlt : k < n
    · obtain ⟨v, hv⟩ := F.got k hlt
      rcases hk with h0 | ⟨b, off, rfl, hb, hc⟩
      · omega
      have hck : wr.cell? ⟨b, off + k, none⟩ = some (.int .u8 (kd k)) := by rw [F.bel.cell (p := ⟨b, off + k, none⟩) hb]; exact hc k hlt
      have HC : Hid (∀ i, i < n → w.cell? ⟨b, off + i, none⟩ = some (.int .u8 (kd i))) := hc
      clear hc
      rw [if_pos (show k ≤ n by omega)] at F ⊢
      go_wp2
      go_roundw
      case rel => 
        refine ⟨k + 1, by omega, by go_num, ?_, ?_⟩
        · rw [if_pos (show k + 1 ≤ n by omega)]; go_num
        · rw [if_pos (show k + 1 ≤ n by omega)]; exact F.store hlt rfl (Nat.le_refl _)
      case measure => simp [intOf]; omega
    · by_cases hle : k = n
      · subst hle
        rw [if_pos (Nat.le_refl _)] at F ⊢
        go_wp2
        go_roundw
        case rel => 
          refine ⟨k + 1, by omega, by go_num, ?_, ?_⟩
          · rw [if_neg (by omega)]
          · rw [if_neg (by omega)]; exact F
        case measure => simp [intOf]
      · obtain rfl : k = n + 1 := by omega
        rw [if_neg (by omega)] at F ⊢
        go_wp2
        have L0 := Links.first F
        clear F hmk hmk2 hsz hfr hk
        go_loopw [11] (fun i wr => ∃ z : Int, -1 ≤ z ∧ z < n ∧ i = .int .i64 z ∧ Links w wr n kd z) (fun i _ => (intOf i + 1).toNat)
        case atStart => exact ⟨(n : Int) - 1, by omega, by omega, rfl, L0⟩
        case round =>
          clear L0
          obtain ⟨z, hz1, hz2, rfl, L⟩ := hrel
          by_cases hz : 0 ≤ z
          · obtain ⟨i, rfl⟩ := Int.eq_ofNat_of_zero_le hz
            have hs := L.size
            have hsz : w.heap.size + 1 < wr.heap.size := by omega
            have hp := L.ps (i + 1) (by omega) (by omega)
            have hq := L.ks i (by omega)
            obtain ⟨v, hv⟩ := L.got i (by omega)
            have hf := L.fr i
            have hI2 : (0 : Int) ≤ (i : Int) + 1 := by omega
            have hW : IntKind.i64.wrap ((i : Int) + 1) = (i : Int) + 1 := by rw [IntKind.wrap_i64]; omega
            clear hs
            go_wp2
            go_region_with (go_at_call 21; refine (newctx_any _ _ _).mono ?_; rintro e w' ⟨rfl, rfl⟩)
            all_goals
              go_wp2
              go_roundw
              case rel => (repeat apply Exists.intro); exact ⟨⟨(i : Int) - 1, by omega, by omega, rfl, (L.step' (by omega)).drew⟩, rfl⟩
              case measure => simp [intOf]
          · go_wp2
            go_ret
            obtain rfl : z = -1 := by omega
            exact ⟨rfl, L⟩
end Go.Proofs.Qxb6615984a
