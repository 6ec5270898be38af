import Derived.Test.Qxb6615986aDoorQHit
set_option linter.unusedSimpArgs false
namespace Go.Proofs.Qxb6615986aDoor
open Go.RowKit Go.MuLone
attribute [-go_sem] loadVar storeVar Instr.build
attribute [-simp] Tryd.zeroValue49 Tryd.zeroValue33
attribute [local go_sem] lvs svs bds idAt_drew idAt_drewN idAt_alloc hasId_self hasId_app idAt_setCell idAt_setCells cell_setCells frozen_setCells roomAt_drew roomAt_alloc hasRoom_cells idv_size

set_option maxRecDepth 8000 in
set_option maxHeartbeats 4000000 in
theorem zzqueried_gen (T : Nat) (i : ID20) (p : Nat → Int) (q n : Int) (z : Addr) (w : World) (C : Prop) (R : World → Prop) (hp : ∀ i, 0 ≤ p i ∧ p i < 256) (hz : w.cell? ⟨0, 0, none⟩ = some (.pointer (some z))) (hsz : 0 < w.heap.size) (hn0 : 0 ≤ n) (hn1 : n ≤ 4611686018427387904)
    (hc : ∀ w1, Below w.heap.size w w1 → Calls Tryd.prog 15 #[.pointer (some ⟨T, 0, none⟩), .agg (ctv i p z q), tm n] w1 fun e w' => QuP C e ∧ R w') :
    Calls Tryd.prog 7 #[.pointer (some ⟨T, 0, none⟩), .agg (idv i), .agg (ipv p), .int .u16 q, .int .i64 n] w fun e w' => QuP C e ∧ R w' := by
  have HC : Hid (∀ w1, Below w.heap.size w w1 → Calls Tryd.prog 15 #[.pointer (some ⟨T, 0, none⟩), .agg (ctv i p z q), tm n] w1 fun e w' => QuP C e ∧ R w') := hc
  have H : Hid (∀ i, 0 ≤ p i ∧ p i < 256) := hp
  have ht := fun W => zztime_any n W hn0 hn1
  have l22 := ld22 w.heap.size i
  clear hc hp
  unfold ipv
  go_enter Tryd.func7, Tryd.ntmps7
  go_wp2_with fail
  refine (contact_any i p q z _ H.out (by go_simp) (by go_simp)).mono ?_
  rintro e w2 ⟨rfl, hb2⟩
  clear l22
  go_wp2_with fail
  refine (ht _).mono ?_
  rintro e w3 ⟨rfl, hb⟩
  have hB : Below w.heap.size w w3 := by
    have z2 := hb2.size
    have b1 : Below w.heap.size w _ := (((Below.refl w.heap.size w).alloc (Nat.le_refl _) _).alloc (by simp) _).trans (hb2.mono (by simp; omega))
    exact b1.trans (hb.mono b1.size)
  have hc3 := HC.out w3 hB
  clear HC hb hb2 hB ht
  go_wp2_with fail
  refine hc3.mono ?_
  rintro e w4 ⟨⟨r, rfl, hr⟩, hR⟩
  go_wp2
  go_ret
  exact ⟨⟨r, rfl, hr⟩, hR⟩
theorem zzqueried_self (T BS BK : Nat) (s i : ID20) (la m : Int) (sl : Value) (p : Nat → Int) (q n : Int) (z : Addr) (w : World) (hp : ∀ i, 0 ≤ p i ∧ p i < 256) (hz : w.cell? ⟨0, 0, none⟩ = some (.pointer (some z))) (hsz : 0 < w.heap.size) (hn0 : 0 ≤ n) (hn1 : n ≤ 4611686018427387904)
    (ht : Tab w T BS BK s m la sl) (hq : (i.1 == s.1) = true) :
    Calls Tryd.prog 7 #[.pointer (some ⟨T, 0, none⟩), .agg (idv i), .agg (ipv p), .int .u16 q, .int .i64 n] w fun e w' => QuP False e ∧ Below w.heap.size w w' :=
  zzqueried_gen T i p q n z w False (fun w' => Below w.heap.size w w') hp hz hsz hn0 hn1
    (fun w1 hb => (queried_self T BS BK s i p la m q n z sl w1 (ht.below hb (Nat.le_refl _)) hq).mono (fun _ _ h => ⟨⟨false, h.1, by simp⟩, hb.trans (h.2.mono hb.size)⟩))
theorem zzqueried_hit (T BS BK ES nn c E : Nat) (s i A : ID20) (p : Nat → Int) (la q n L q' lr lq f lf : Int) (z : Addr) (w : World) (hp : ∀ i, 0 ≤ p i ∧ p i < 256) (hz : w.cell? ⟨0, 0, none⟩ = some (.pointer (some z))) (hsz : 0 < w.heap.size) (hn0 : 0 ≤ n) (hn1 : n ≤ 4611686018427387904)
    (ht : Tab w T BS BK s 0 la (.slice (some ⟨ES, 0, none⟩) nn c)) (he : Ent w E A L z q' lr lq f lf)
    (hes : w.cell? ⟨ES, 0, none⟩ = some (.pointer (some ⟨E, 0, none⟩))) (lES : ES < w.heap.size) (dET : E ≠ T) (dES : E ≠ BS) (dEK : E ≠ BK) (dTE : ES ≠ T) (dEE : ES ≠ E) (hnn : 0 < nn)
    (hq : (i.1 == s.1) = false) (hi : (A.1 == i.1) = true) :
    Calls Tryd.prog 7 #[.pointer (some ⟨T, 0, none⟩), .agg (idv i), .agg (ipv p), .int .u16 q, .int .i64 n] w fun e w' => QuP (3 ≤ f ∧ lf < la) e ∧ (∃ lq', Tab w' T BS BK s 0 la (.slice (some ⟨ES, 0, none⟩) nn c) ∧ Ent w' E A L z q' lr lq' f lf) ∧ Keep [T, E] w w' :=
  zzqueried_gen T i p q n z w (3 ≤ f ∧ lf < la) (fun w' => (∃ lq', Tab w' T BS BK s 0 la (.slice (some ⟨ES, 0, none⟩) nn c) ∧ Ent w' E A L z q' lr lq' f lf) ∧ Keep [T, E] w w') hp hz hsz hn0 hn1
    (fun w1 hb => (queried_hit T BS BK ES nn c E s i A p la q n L q' lr lq f lf z w1 (ht.below hb (Nat.le_refl _)) (he.below hb (Nat.le_refl _)) (by rw [hb.cell (p := ⟨ES, 0, none⟩) lES]; exact hes) (Nat.lt_of_lt_of_le lES hb.size) dET dES dEK dTE dEE hnn hq hi hn0 hn1).mono
      (fun _ _ h => ⟨h.1, h.2.1, (Keep.ofBelow hb).trans h.2.2⟩))
end Go.Proofs.Qxb6615986aDoor
