import Derived.Test.Qxb6615986aDoorFailed
set_option linter.unusedSimpArgs false
namespace Go.Proofs.Qxb6615986aDoor
open Go.RowKit Go.MuLone
attribute [-go_sem] loadVar storeVar Instr.build
attribute [-simp] Tryd.zeroValue49 Tryd.zeroValue33
attribute [local go_sem] lvs svs bds idAt_drew idAt_alloc hasId_self hasId_app idAt_setCell idAt_setCells cell_setCells frozen_setCells roomAt_drew roomAt_alloc hasRoom_cells idv_size

set_option maxRecDepth 8000 in
set_option maxHeartbeats 4000000 in
theorem zzfailed_gen (T : Nat) (p : Nat → Int) (q n : Int) (z : Addr) (w : World) (R : Ending → World → Prop) (hp : ∀ i, 0 ≤ p i ∧ p i < 256) (hz : w.cell? ⟨0, 0, none⟩ = some (.pointer (some z))) (hsz : 0 < w.heap.size) (hn0 : 0 ≤ n) (hn1 : n ≤ 4611686018427387904)
    (hc : ∀ w1, Below w.heap.size w w1 → Calls Tryd.prog 12 #[.pointer (some ⟨T, 0, none⟩), .agg (apv (lo4 p) z q), tm n] w1 fun e w' => e = .returned (.tuple #[]) ∧ R (.returned (.tuple #[])) w') :
    Calls Tryd.prog 6 #[.pointer (some ⟨T, 0, none⟩), .agg (ipv p), .int .u16 q, .int .i64 n] w fun e w' => e = .returned (.tuple #[]) ∧ R (.returned (.tuple #[])) w' := by
  have HC : Hid (∀ w1, Below w.heap.size w w1 → Calls Tryd.prog 12 #[.pointer (some ⟨T, 0, none⟩), .agg (apv (lo4 p) z q), tm n] w1 fun e w' => e = .returned (.tuple #[]) ∧ R (.returned (.tuple #[])) w') := hc
  have H : Hid (∀ i, 0 ≤ p i ∧ p i < 256) := hp
  have ht := fun W => zztime_any n W hn0 hn1
  clear hc hp
  unfold ipv
  go_enter Tryd.func6, Tryd.ntmps6
  go_wp2_with fail
  refine (from4_any p z _ H.out (by go_simp) (by go_simp)).mono ?_
  rintro e w' ⟨rfl, hw⟩; subst w'
  go_wp2_with fail
  refine (portFrom_any (lo4 p) q z _).mono ?_
  rintro e w' ⟨rfl, hw⟩; subst w'
  go_wp2_with fail
  refine (ht _).mono ?_
  rintro e w3 ⟨rfl, hb⟩
  have hB : Below w.heap.size w w3 := by
    refine Below.trans ?_ (hb.mono (by simp; omega))
    exact (((((Below.refl _ _).alloc (Nat.le_refl _) _).alloc (by simp) _).alloc (by simp; omega) _).alloc (by simp; omega) _).alloc (by simp; omega) _
  have hc3 := HC.out w3 hB
  clear HC hb hB ht
  go_wp2_with fail
  refine hc3.mono ?_
  rintro e w4 ⟨rfl, hR⟩
  go_wp2
  go_end0
  exact ⟨rfl, hR⟩

theorem zzfailed_none (T BS BK : Nat) (s : ID20) (la : Int) (p : Nat → Int) (q n : Int) (z : Addr) (w : World) (hp : ∀ i, 0 ≤ p i ∧ p i < 256) (hz : w.cell? ⟨0, 0, none⟩ = some (.pointer (some z))) (hsz : 0 < w.heap.size) (hn0 : 0 ≤ n) (hn1 : n ≤ 4611686018427387904)
    (ht : Tab w T BS BK s 0 la (.slice none 0 0)) :
    Calls Tryd.prog 6 #[.pointer (some ⟨T, 0, none⟩), .agg (ipv p), .int .u16 q, .int .i64 n] w fun e w' => e = .returned (.tuple #[]) ∧ Tab w' T BS BK s 0 la (.slice none 0 0) ∧ Keep [T] w w' :=
  zzfailed_gen T p q n z w (fun _ w' => Tab w' T BS BK s 0 la (.slice none 0 0) ∧ Keep [T] w w') hp hz hsz hn0 hn1
    (fun w1 hb => (failed_none T BS BK s la (lo4 p) q n z w1 (ht.below hb (Nat.le_refl _))).mono (fun _ _ h => ⟨h.1, h.2.1, (Keep.ofBelow hb).trans h.2.2⟩))
theorem zzfailed_one (T BS BK ES c E : Nat) (s A : ID20) (la lr lq f lf : Int) (p : Nat → Int) (q n : Int) (z : Addr) (w : World) (hp : ∀ i, 0 ≤ p i ∧ p i < 256) (hz : w.cell? ⟨0, 0, none⟩ = some (.pointer (some z))) (hsz : 0 < w.heap.size) (hn0 : 0 ≤ n) (hn1 : n ≤ 4611686018427387904)
    (ht : Tab w T BS BK s 0 la (.slice (some ⟨ES, 0, none⟩) 1 c)) (he : Ent w E A (lo4 p) z q lr lq f lf)
    (hes : w.cell? ⟨ES, 0, none⟩ = some (.pointer (some ⟨E, 0, none⟩))) (lES : ES < w.heap.size) (dET : E ≠ T) (dES : E ≠ BS) (dEK : E ≠ BK) (dTE : ES ≠ T) (hf0 : 0 ≤ f) (hf1 : f ≤ 1000000) :
    Calls Tryd.prog 6 #[.pointer (some ⟨T, 0, none⟩), .agg (ipv p), .int .u16 q, .int .i64 n] w fun e w' => e = .returned (.tuple #[]) ∧ Tab w' T BS BK s 0 la (.slice (some ⟨ES, 0, none⟩) 1 c) ∧ Ent w' E A (lo4 p) z q lr lq (f + 1) n ∧ Keep [T, E] w w' :=
  zzfailed_gen T p q n z w (fun _ w' => Tab w' T BS BK s 0 la (.slice (some ⟨ES, 0, none⟩) 1 c) ∧ Ent w' E A (lo4 p) z q lr lq (f + 1) n ∧ Keep [T, E] w w') hp hz hsz hn0 hn1
    (fun w1 hb => (failed_one T BS BK ES c E s A la (lo4 p) q lr lq f lf n z w1 (ht.below hb (Nat.le_refl _)) (he.below hb (Nat.le_refl _)) (by rw [hb.cell (p := ⟨ES, 0, none⟩) lES]; exact hes) (Nat.lt_of_lt_of_le lES hb.size) dET dES dEK dTE hf0 hf1).mono
      (fun _ _ h => ⟨h.1, h.2.1, h.2.2.1, (Keep.ofBelow hb).trans h.2.2.2⟩))
end Go.Proofs.Qxb6615986aDoor
