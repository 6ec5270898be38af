import Derived.Test.Qxb6616015aFmtMapB
import Derived.BigRegion
namespace Go.Proofs.Qxb6616015aFmt
open Go.RowKit

theorem heap_setM_same {W : World} {M : Nat} {o o' : Obj} (h : W.heap[M]? = some o') : (setM W M o).heap[M]? = some o := by
  have := lt_of_heap h
  simp [setM, this]
theorem heap_setM_other {W : World} {M b : Nat} {o : Obj} (h : b ≠ M) : (setM W M o).heap[b]? = W.heap[b]? := by
  simp only [setM]
  rw [Array.getElem?_setIfInBounds_ne (Ne.symm h)]
theorem cell_setM_other {W : World} {M : Nat} {o : Obj} {a : Addr} (h : a.block ≠ M) : (setM W M o).cell? a = W.cell? a := World.cell?_of_block (heap_setM_other h)
theorem size_setM (W : World) (M : Nat) (o : Obj) : (setM W M o).heap.size = W.heap.size := by simp [setM]
theorem below_setM {B : Nat} {a w : World} (h : Below B a w) {M : Nat} (hM : B ≤ M) (o : Obj) : Below B a (setM w M o) :=
  ⟨h.os, h.tape, h.output, by rw [size_setM]; exact h.size, fun k hk => by rw [heap_setM_other (by omega)]; exact h.block k hk⟩

/-- NewResolver's loop: the first k services are in the map -/
structure NR (w wr : World) (q : Option Addr) (n c D k : Nat) (sv : Nat → Svc) : Prop where
  bel : Below w.heap.size w wr
  map : wr.heap[w.heap.size + 1]? = some (.map (ents D sv k) k)
  b1 : wr.cell? ⟨w.heap.size, 1, none⟩ = some (.slice q n c)
  b2 : wr.cell? ⟨w.heap.size, 2, none⟩ = some (.slice none 0 0)
  r0 : wr.cell? ⟨w.heap.size + 1 + 1 + 1 + 1, 0, none⟩ = some (.map (some (w.heap.size + 1)))
theorem NR.drew {w wr : World} {q : Option Addr} {n c D k : Nat} {sv : Nat → Svc} (h : NR w wr q n c D k sv) : NR w wr.drew q n c D k sv := ⟨h.bel.drew, h.map, h.b1, h.b2, h.r0⟩
theorem NR.step {w wr : World} {q : Option Addr} {n c D k : Nat} {sv : Nat → Svc} (h : NR w wr q n c D k sv) : NR w (setM wr (w.heap.size + 1) (.map (ents D sv (k + 1)) (k + 1))) q n c D (k + 1) sv :=
  ⟨below_setM h.bel (Nat.le_succ _) _, heap_setM_same h.map, (cell_setM_other (by simp)).trans h.b1, (cell_setM_other (by simp)).trans h.b2, (cell_setM_other (by simp; omega)).trans h.r0⟩

theorem heap_new (w : World) (o : Obj) : (w.alloc o).heap[w.heap.size]? = some o := by
  show (w.heap.push o)[w.heap.size]? = some o
  simp
theorem NR.first (w : World) (q : Option Addr) (n c D : Nat) (sv : Nat → Svc) :
    NR w (((((w.alloc (.cells #[.slice none 0 0, .slice q n c, .slice none 0 0, .slice none 0 0] 40)).alloc (.map #[] 0)).alloc (.map #[] 0)).alloc (.map #[] 0)).alloc (.cells #[.map (some (w.heap.size + 1)), .map (some (w.heap.size + 1 + 1)), .map (some (w.heap.size + 1 + 1 + 1)), .map none] 53)) q n c D 0 sv := by
  refine ⟨?_, ?_, ?_, ?_, ?_⟩
  · exact ((((((Below.refl _ w).alloc (Nat.le_refl _) _).alloc (by simp) _).alloc (by simp; omega) _).alloc (by simp; omega) _).alloc (by simp; omega) _)
  · rw [Below.heap_alloc _ _ _ (by simp), Below.heap_alloc _ _ _ (by simp), Below.heap_alloc _ _ _ (by simp)]
    have := heap_new (w.alloc (.cells #[.slice none 0 0, .slice q n c, .slice none 0 0, .slice none 0 0] 40)) (.map #[] 0)
    simpa [ents] using this
  · go_simp
  · go_simp
  · go_simp

theorem fnd_uni {sv : Nat → Svc} {n k : Nat} (hu : ∀ i j, i < j → j < n → sameSv (sv i) (sv j) = false) (hk : k < n) : fnd (fun j => isSv (sv k).ns (sv k).nm (sv j)) k 0 = none := by
  cases h : fnd (fun j => isSv (sv k).ns (sv k).nm (sv j)) k 0 with
  | none => rfl
  | some j =>
    obtain ⟨_, h2, h3⟩ := fnd_lt k 0 j h
    have := hu j k (by omega) hk
    simp only [sameSv] at this
    rw [this] at h3
    cases h3

/-- a pointer to a resolver was returned -/
def RP (n : Nat) (sv : Nat → Svc) (w' : World) (e : Ending) : Prop := ∃ R, e = .returned (.pointer (some ⟨R, 0, none⟩)) ∧ Res w' R n sv

set_option maxHeartbeats 1000000 in
theorem newRes_any (q : Option Addr) (n c D : Nat) (sv : Nat → Svc) (w : World) (hn : n ≤ 1048576) (hq : n = 0 ∨ q = some ⟨D, 0, none⟩) (hd : ∀ i, i < n → DocS w D i (sv i)) (hu : ∀ i j, i < j → j < n → sameSv (sv i) (sv j) = false) :
    Calls Tryf.prog 10 #[.agg #[.slice none 0 0, .slice q n c, .slice none 0 0, .slice none 0 0]] w fun e w' => RP n sv w' e ∧ Below w.heap.size w w' := by
  have hmm := @run_makeMap Tryf.prog


  have HU : Hid (∀ i j, i < j → j < n → sameSv (sv i) (sv j) = false) := hu
  have HD : Hid (∀ i, i < n → DocS w D i (sv i)) := hd
  clear hu hd
  go_enter Tryf.func10, Tryf.ntmps10
  go_wp2
  go_loopw [17] (fun i wr => ∃ k : Nat, k ≤ n ∧ i = .int .i64 k ∧ NR w wr q n c D k sv) (fun i _ => n - (intOf i).toNat)
  case atStart => exact ⟨0, by omega, rfl, NR.first w q n c D sv⟩
  case round =>
    obtain ⟨k, hk, rfl, N⟩ := hrel
    by_cases hlt : k < n
    · rcases hq with h0 | rfl
      · omega
      have hup : ∀ W : World, W.heap = wr.heap → (Instr.mapUpdate 48 (.map (some (w.heap.size + 1))) (.agg #[.string (sv k).ns, .string (sv k).nm]) (.pointer (some ⟨D, k * 9, none⟩))).run Tryf.prog W = .ok () (setM W (w.heap.size + 1) (.map (ents D sv (k + 1)) (k + 1))) := fun W hW =>
        update48 D sv k (w.heap.size + 1) W (by rw [hW]; exact N.map) (fnd_uni HU.out hlt)
      have hdr : wr.drew.heap = wr.heap := rfl
      obtain ⟨c0, c1, _⟩ := HD.out k hlt
      have hDlt := lt_of_cell c0
      simp only at hDlt
      rw [← N.bel.cell (p := ⟨D, _, none⟩) hDlt] at c0 c1
      have b1 := N.b1
      have r0 := N.r0
      clear hmm
      go_wp2
      go_region
      all_goals
        go_wp2
        go_roundw
        case rel => first | exact ⟨k + 1, by omega, by go_num, N.drew.step⟩ | ((repeat apply Exists.intro); exact ⟨⟨k + 1, by omega, by go_num, N.drew.step⟩, rfl⟩)
        case measure => simp [intOf]; omega
    · have hkk : n = k := by omega
      subst hkk
      have b2 := N.b2
      clear hmm hlt hk
      go_wp2
      refine wp_loop_rounds 1 ?_
      rw [rounds_succ]
      go_wp2
      go_ret
      exact ⟨⟨w.heap.size + 1 + 1 + 1 + 1, rfl, w.heap.size + 1, D, N.r0, N.map, fun i hi => (HD.out i hi).below N.bel⟩, N.bel⟩
end Go.Proofs.Qxb6616015aFmt
