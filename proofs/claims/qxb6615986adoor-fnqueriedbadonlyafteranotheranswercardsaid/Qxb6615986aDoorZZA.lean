import Derived.Test.Qxb6615986aDoorAddW
import Derived.Test.Qxb6615986aDoorAgain
set_option linter.unusedSimpArgs false
namespace Go.Proofs.Qxb6615986aDoor
open Go.RowKit Go.MuLone
attribute [-go_sem] loadVar storeVar Instr.build
attribute [-simp] Tryd.zeroValue49 Tryd.zeroValue33
attribute [local go_sem] lvs svs bds idAt_drew idAt_drewN idAt_alloc hasId_self hasId_app idAt_setCell idAt_setCells cell_setCells frozen_setCells roomAt_drew roomAt_alloc hasRoom_cells idv_size

set_option maxRecDepth 8000 in
set_option maxHeartbeats 4000000 in
theorem zzanswered_gen (T : Nat) (i : ID20) (p : Nat → Int) (q n : Int) (z : Addr) (w : World) (R : World → Prop) (hp : ∀ i, 0 ≤ p i ∧ p i < 256) (hz : w.cell? ⟨0, 0, none⟩ = some (.pointer (some z))) (hsz : 0 < w.heap.size) (hn0 : 0 ≤ n) (hn1 : n ≤ 4611686018427387904)
    (hR : ∀ a b, R a → Below a.heap.size a b → R b)
    (hc : ∀ w1, Below w.heap.size w w1 → Calls Tryd.prog 10 #[.pointer (some ⟨T, 0, none⟩), .agg (ctv i p z q), tm n] w1 fun e w' => e = .returned (.tuple #[.agg zc49, .bool false]) ∧ R w') :
    Calls Tryd.prog 5 #[.pointer (some ⟨T, 0, none⟩), .agg (idv i), .agg (ipv p), .int .u16 q, .int .i64 n] w fun e w' => e = .returned (.bool false) ∧ R w' := by
  have HC : Hid (∀ w1, Below w.heap.size w w1 → Calls Tryd.prog 10 #[.pointer (some ⟨T, 0, none⟩), .agg (ctv i p z q), tm n] w1 fun e w' => e = .returned (.tuple #[.agg zc49, .bool false]) ∧ R w') := hc
  have HR : Hid (∀ a b, R a → Below a.heap.size a b → R b) := hR
  have H : Hid (∀ i, 0 ≤ p i ∧ p i < 256) := hp
  have ht := fun W => zztime_any n W hn0 hn1
  have l22 := ld22 w.heap.size i
  clear hc hp hR
  unfold ipv
  go_enter Tryd.func5, Tryd.ntmps5
  go_wp2_with fail
  refine (contact_any i p q z _ H.out (by go_simp) (by go_simp)).mono ?_
  rintro e w2 ⟨rfl, hb2⟩
  clear l22
  go_wp2_with fail
  refine (ht _).mono ?_
  rintro e w3 ⟨rfl, hb⟩
  have hB : Below w.heap.size w w3 := by
    have z2 := hb2.size
    have b1 : Below w.heap.size w _ := (((Below.refl w.heap.size w).alloc (Nat.le_refl _) _).alloc (by simp) _).trans (hb2.mono (by simp; omega))
    exact b1.trans (hb.mono b1.size)
  have hc3 := HC.out w3 hB
  clear HC hb hb2 hB ht
  go_wp2_with fail
  refine hc3.mono ?_
  rintro e w4 ⟨rfl, hR4⟩
  have z49 := zero49
  have s49 := zc49_size
  have st := st49 zc49 zc49_size zc49_one w4.heap.size
  go_wp2_with fail
  go_ret
  exact ⟨rfl, HR.out _ _ hR4 (below_setCells ((Below.refl _ _).alloc (Nat.le_refl _) _) (Nat.le_refl _) _ _)⟩

theorem zzanswered_self (T BS BK : Nat) (s i : ID20) (la m : Int) (sl : Value) (p : Nat → Int) (q n : Int) (z : Addr) (w : World) (hp : ∀ i, 0 ≤ p i ∧ p i < 256) (hz : w.cell? ⟨0, 0, none⟩ = some (.pointer (some z))) (hsz : 0 < w.heap.size) (hn0 : 0 ≤ n) (hn1 : n ≤ 4611686018427387904)
    (ht : Tab w T BS BK s m la sl) (hq : (i.1 == s.1) = true) :
    Calls Tryd.prog 5 #[.pointer (some ⟨T, 0, none⟩), .agg (idv i), .agg (ipv p), .int .u16 q, .int .i64 n] w fun e w' => e = .returned (.bool false) ∧ Below w.heap.size w w' :=
  zzanswered_gen T i p q n z w (fun w' => Below w.heap.size w w') hp hz hsz hn0 hn1
    (fun _ _ h k => h.trans (k.mono h.size))
    (fun w1 hb => (answered_self T BS BK s i p la m q n z sl w1 (ht.below hb (Nat.le_refl _)) hq).mono (fun _ _ h => ⟨h.1, hb.trans (h.2.mono hb.size)⟩))

theorem AddP.below {T BS BK : Nat} {s i : ID20} {p : Nat → Int} {la q n : Int} {z : Addr} {k B : Nat} {xs : List Value} {L : List Nat} {w a b : World} (h : AddP T BS BK s i p la q n z k B xs L w a) (hb : Below a.heap.size a b) : AddP T BS BK s i p la q n z k B xs L w b := by
  obtain ⟨⟨ES, c', E, h1, h2, h3, h4, h5, h6⟩, h7⟩ := h
  exact ⟨⟨ES, c', E, h1.below hb (Nat.le_refl _), own_keep h2 (Keep.ofBelow (L := []) hb) (by simp), h3.below hb (Nat.le_refl _), h4, h5, h6⟩, h7.trans (Keep.ofBelow hb)⟩
theorem AddP.from {T BS BK : Nat} {s i : ID20} {p : Nat → Int} {la q n : Int} {z : Addr} {k B : Nat} {xs : List Value} {L : List Nat} {w a b : World} (h : AddP T BS BK s i p la q n z k B xs L a b) (hb : Below w.heap.size w a) : AddP T BS BK s i p la q n z k B xs L w b := by
  obtain ⟨⟨ES, c', E, h1, h2, h3, h4, h5, h6⟩, h7⟩ := h
  have hz := hb.size
  exact ⟨⟨ES, c', E, h1, h2, h3, by omega, h5.imp id (fun h => by omega), h6⟩, (Keep.ofBelow hb).trans h7⟩
theorem zzanswered_add (T BS BK : Nat) (s i : ID20) (p : Nat → Int) (la q n : Int) (z : Addr) (so : Option Addr) (k c B : Nat) (xs : List Value) (L : List Nat) (w : World) (hp : ∀ i, 0 ≤ p i ∧ p i < 256) (hz : w.cell? ⟨0, 0, none⟩ = some (.pointer (some z))) (hsz : 0 < w.heap.size) (hn0 : 0 ≤ n) (hn1 : n ≤ 4611686018427387904)
    (ht : Tab w T BS BK s 0 la (.slice so k c)) (hq : (i.1 == s.1) = false)
    (hk : k ≤ 1) (hown : w.ownsRow B 76 1 (.slice so k c) k xs) (hL : ∀ x, (Value.slice so k c).ownBlock = some x → x ∈ L) (hLw : ∀ x ∈ L, x ≠ T ∧ x ≠ BS ∧ x ≠ BK ∧ x < w.heap.size) (hB : B ≤ w.heap.size)
    (hf : ∀ w1 la1, Keep [T] w w1 → Tab w1 T BS BK s 1 la1 (.slice so k c) → Calls Tryd.prog 20 #[.pointer (some ⟨T, 0, none⟩), .agg (idv i)] w1 fun e w' => e = .returned (.tuple #[.pointer (some ⟨BK, 0, none⟩), .int .i64 (-1)]) ∧ Below w1.heap.size w1 w') :
    Calls Tryd.prog 5 #[.pointer (some ⟨T, 0, none⟩), .agg (idv i), .agg (ipv p), .int .u16 q, .int .i64 n] w fun e w' => e = .returned (.bool false) ∧ AddP T BS BK s i p (if la < n then n else la) q n z k B xs L w w' :=
  zzanswered_gen T i p q n z w (fun w' => AddP T BS BK s i p (if la < n then n else la) q n z k B xs L w w') hp hz hsz hn0 hn1
    (fun _ _ h k => h.below k)
    (fun w1 hb => (answered_add T BS BK s i p la q n z so k c B xs L w1 (ht.below hb (Nat.le_refl _)) hq hk (own_keep hown (Keep.ofBelow (L := []) hb) (by simp)) hL (fun x hx => by have := hLw x hx; have := hb.size; exact ⟨by omega, by omega, by omega, by omega⟩) (by have := hb.size; omega) hn0 hn1 (fun w2 la1 hk2 ht2 => hf w2 la1 ((Keep.ofBelow hb).trans hk2) ht2)).mono (fun _ _ h => ⟨h.1, h.2.from hb⟩))

theorem AgainP.below {T BS BK E : Nat} {s A : ID20} {la lq lf : Int} {z : Addr} {sl : Value} {w a b : World} (h : AgainP T BS BK E s A la lq lf z sl w a) (hb : Below a.heap.size a b) : AgainP T BS BK E s A la lq lf z sl w b := by
  obtain ⟨⟨L, q, lr, f, h1, h2, h3⟩, h7⟩ := h
  exact ⟨⟨L, q, lr, f, h1.below hb (Nat.le_refl _), h2.below hb (Nat.le_refl _), h3⟩, h7.trans (Keep.ofBelow hb)⟩
theorem zzanswered_again (T BS BK ES c E : Nat) (s i A : ID20) (p : Nat → Int) (la q n L q' lr lq f lf : Int) (z : Addr) (w : World) (hp : ∀ i, 0 ≤ p i ∧ p i < 256) (hz : w.cell? ⟨0, 0, none⟩ = some (.pointer (some z))) (hsz : 0 < w.heap.size) (hn0 : 0 ≤ n) (hn1 : n ≤ 4611686018427387904)
    (ht : Tab w T BS BK s 0 la (.slice (some ⟨ES, 0, none⟩) 1 c)) (he : Ent w E A L z q' lr lq f lf)
    (hes : w.cell? ⟨ES, 0, none⟩ = some (.pointer (some ⟨E, 0, none⟩))) (lES : ES < w.heap.size) (dET : E ≠ T) (dES : E ≠ BS) (dEK : E ≠ BK) (dTE : ES ≠ T)
    (hq : (i.1 == s.1) = false) (hi : (A.1 == i.1) = true) :
    Calls Tryd.prog 5 #[.pointer (some ⟨T, 0, none⟩), .agg (idv i), .agg (ipv p), .int .u16 q, .int .i64 n] w fun e w' => e = .returned (.bool false) ∧ AgainP T BS BK E s A (if la < n then n else la) lq lf z (.slice (some ⟨ES, 0, none⟩) 1 c) w w' :=
  zzanswered_gen T i p q n z w (fun w' => AgainP T BS BK E s A (if la < n then n else la) lq lf z (.slice (some ⟨ES, 0, none⟩) 1 c) w w') hp hz hsz hn0 hn1
    (fun _ _ h k => h.below k)
    (fun w1 hb => (answered_again T BS BK ES c E s i A p la q n L q' lr lq f lf z w1 (ht.below hb (Nat.le_refl _)) (he.below hb (Nat.le_refl _)) (by rw [hb.cell (p := ⟨ES, 0, none⟩) lES]; exact hes) (Nat.lt_of_lt_of_le lES hb.size) dET dES dEK dTE hq hi hn0 hn1).mono (fun _ _ h => ⟨h.1, h.2.1, (Keep.ofBelow hb).trans h.2.2⟩))
end Go.Proofs.Qxb6615986aDoor
