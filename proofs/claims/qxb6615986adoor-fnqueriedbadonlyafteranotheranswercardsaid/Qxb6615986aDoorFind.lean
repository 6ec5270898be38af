import Derived.Test.Qxb6615986aDoorBucket
set_option linter.unusedSimpArgs false
namespace Go.Proofs.Qxb6615986aDoor
open Go.RowKit
attribute [-go_sem] loadVar storeVar Instr.build
attribute [-simp] Tryd.zeroValue49 Tryd.zeroValue33
attribute [local go_sem] lvs svs bds idAt_drew idAt_alloc hasId_self hasId_app idAt_setCell idAt_setCells cell_setCells frozen_setCells roomAt_drew roomAt_alloc hasRoom_cells idv_size

set_option maxRecDepth 8000 in
set_option maxHeartbeats 4000000 in
theorem findf_any (E X : Nat) (a i : ID20) (w : World) (ha : idAt w E a) (hx : idAt w X i) :
    Calls Tryd.prog 36 #[.pointer (some ⟨E, 0, none⟩), .pointer (some ⟨X, 0, none⟩)] w fun e w' => e = .returned (.bool (a.1 == i.1)) ∧ Below w.heap.size w w' := by
  have l1 := ld33 E a
  have l2 := ld33 X i
  have e1 := eq33 a i
  go_enter Tryd.func36, Tryd.ntmps36
  go_wp2_with fail
  go_region
  all_goals
    go_wp2
    go_ret
    exact ⟨rfl, (Below.refl _ _).drew⟩

set_option maxHeartbeats 4000000 in
theorem indexNone_any (X : Nat) (w : World) :
    Calls Tryd.prog 35 #[.slice none 0 0, .func (.func 36) #[] #[.pointer (some ⟨X, 0, none⟩)]] w fun e w' => e = .returned (.int .i64 (-1)) ∧ Below w.heap.size w w' := by
  go_enter Tryd.func35, Tryd.ntmps35
  go_wp2_with fail
  go_loop [5, 8] (fun _ i => i = .int .i64 0) (fun _ _ => 0)
  case atStart => rfl
  case round =>
    obtain rfl := hrel
    go_wp2
    go_ret
    exact ⟨rfl, Below.refl _ _⟩

set_option maxHeartbeats 4000000 in
theorem indexHit_any (ES n c E X : Nat) (a i : ID20) (w : World) (hn : 0 < n) (he : w.cell? ⟨ES, 0, none⟩ = some (.pointer (some ⟨E, 0, none⟩))) (ha : idAt w E a) (hx : idAt w X i) (hq : (a.1 == i.1) = true) :
    Calls Tryd.prog 35 #[.slice (some ⟨ES, 0, none⟩) n c, .func (.func 36) #[] #[.pointer (some ⟨X, 0, none⟩)]] w fun e w' => e = .returned (.int .i64 0) ∧ Below w.heap.size w w' := by
  have hc := findf_any E X a i w ha hx
  rw [hq] at hc
  have hn1 : 0 < (n : Int) := by omega
  go_enter Tryd.func35, Tryd.ntmps35
  go_wp2_with fail
  go_loop [5, 8] (fun _ i => i = .int .i64 0) (fun _ _ => 0)
  case atStart => rfl
  case round =>
    obtain rfl := hrel
    go_wp2_with fail
    refine hc.mono ?_
    rintro e w' ⟨rfl, hb⟩
    go_wp2
    go_ret
    exact ⟨rfl, hb⟩

set_option maxHeartbeats 4000000 in
theorem indexMiss_any (ES c E X : Nat) (a i : ID20) (w : World) (he : w.cell? ⟨ES, 0, none⟩ = some (.pointer (some ⟨E, 0, none⟩))) (ha : idAt w E a) (hx : idAt w X i) (hq : (a.1 == i.1) = false) :
    Calls Tryd.prog 35 #[.slice (some ⟨ES, 0, none⟩) 1 c, .func (.func 36) #[] #[.pointer (some ⟨X, 0, none⟩)]] w fun e w' => e = .returned (.int .i64 (-1)) ∧ Below w.heap.size w w' := by
  have hc := findf_any E X a i w ha hx
  rw [hq] at hc
  go_enter Tryd.func35, Tryd.ntmps35
  go_wp2_with fail
  go_loopw [5, 8] (fun _ i wr => (i = .int .i64 0 ∧ wr = w) ∨ (i = .int .i64 1 ∧ Below w.heap.size w wr)) (fun _ i _ => 1 - (intOf i).toNat)
  case atStart => exact .inl ⟨rfl, rfl⟩
  case round =>
    rcases hrel with ⟨rfl, rfl⟩ | ⟨rfl, hb⟩
    · go_wp2_with fail
      refine hc.mono ?_
      rintro e w' ⟨rfl, hb⟩
      go_wp2
      go_roundw
      case rel => exact .inr ⟨by rfl, hb⟩
      case measure => simp [intOf]
    · clear hc
      go_wp2
      go_ret
      exact ⟨rfl, hb⟩

/-- the table's facts hold on where nothing below was written -/
theorem Tab.below {w w' : World} {T BS BK : Nat} {s : ID20} {m la : Int} {sl : Value} (h : Tab w T BS BK s m la sl) {B : Nat} (hb : Below B w w') (hB : w.heap.size ≤ B) : Tab w' T BS BK s m la sl := by
  have h1 : ∀ b o, b < w.heap.size → w'.cell? ⟨b, o, none⟩ = w.cell? ⟨b, o, none⟩ := fun b o hh => hb.cell (p := ⟨b, o, none⟩) (by show b < B; omega)
  have h2 : ∀ b o, b < w.heap.size → w'.frozen? ⟨b, o, none⟩ = w.frozen? ⟨b, o, none⟩ := fun b o hh => hb.frozen (p := ⟨b, o, none⟩) (by show b < B; omega)
  have hT := h.lT
  have hS := h.lS
  have hK := h.lK
  have hz := hb.size
  constructor
  · rw [idAt_below hb T s (by omega)]; exact h.id
  · rw [h1 _ _ hT]; exact h.mu
  · rw [h1 _ _ hT]; exact h.bs
  · rw [h1 _ _ hT]; exact h.a0
  · rw [h1 _ _ hT]; exact h.a1
  · rw [h1 _ _ hT]; exact h.a2
  · rw [h1 _ _ hS]; exact h.bk
  · rw [h1 _ _ hK]; exact h.en
  · rw [h1 _ _ hK]; exact h.k1
  · rw [h1 _ _ hK]; exact h.k2
  · rw [h1 _ _ hK]; exact h.k3
  · intro i; rw [h2 _ _ hT]; exact h.fT i
  · intro i; rw [h2 _ _ hK]; exact h.fK i
  · exact h.dTS
  · exact h.dTK
  · exact h.dSK
  · omega
  · omega
  · omega

set_option maxRecDepth 8000 in
set_option maxHeartbeats 4000000 in
theorem find_gen (T BS BK : Nat) (s i : ID20) (m la r : Int) (sl : Value) (w : World) (h : Tab w T BS BK s m la sl)
    (hx : ∀ w1, Below (w.heap.size + 1) (w.alloc (.cells (idv i) 33)) w1 → Calls Tryd.prog 35 #[sl, .func (.func 36) #[] #[.pointer (some ⟨w.heap.size, 0, none⟩)]] w1 fun e w' => e = .returned (.int .i64 r) ∧ Below w1.heap.size w1 w') :
    Calls Tryd.prog 20 #[.pointer (some ⟨T, 0, none⟩), .agg (idv i)] w fun e w' => e = .returned (.tuple #[.pointer (some ⟨BK, 0, none⟩), .int .i64 r]) ∧ Below w.heap.size w w' := by
  have l33 := ld33 w.heap.size i
  have b0 : Below w.heap.size w (w.alloc (.cells (idv i) 33)) := (Below.refl _ _).alloc (Nat.le_refl _) _
  have h0 := h.below b0 (Nat.le_refl _)
  have hc := bucketFor_any T BS BK s i m la sl _ h0
  have HX : Hid (∀ w1, Below (w.heap.size + 1) (w.alloc (.cells (idv i) 33)) w1 → Calls Tryd.prog 35 #[sl, .func (.func 36) #[] #[.pointer (some ⟨w.heap.size, 0, none⟩)]] w1 fun e w' => e = .returned (.int .i64 r) ∧ Below w1.heap.size w1 w') := hx
  have H0 : Hid (Tab (w.alloc (.cells (idv i) 33)) T BS BK s m la sl) := h0
  have HB : Hid (Below w.heap.size w (w.alloc (.cells (idv i) 33))) := b0
  clear h hx b0 h0
  go_enter Tryd.func20, Tryd.ntmps20
  go_wp2_with fail
  refine hc.mono ?_
  rintro e w1 ⟨rfl, hb⟩
  have en : w1.cell? ⟨BK, 0, none⟩ = some sl := by rw [hb.cell (p := ⟨BK, 0, none⟩) H0.out.lK]; exact H0.out.en
  have hx1 := HX.out w1 (hb.mono (by simp))
  have HB1 : Hid (Below (w.alloc (.cells (idv i) 33)).heap.size (w.alloc (.cells (idv i) 33)) w1) := hb
  clear hb hc l33
  go_wp2_with fail
  refine hx1.mono ?_
  rintro e w2 ⟨rfl, hb2⟩
  clear hx1
  go_wp2
  have hz := HB1.out.size
  have hz0 : (w.alloc (.cells (idv i) 33)).heap.size = w.heap.size + 1 := by simp
  refine bodyPost_ret (v := .tuple #[.pointer (some ⟨BK, 0, none⟩), .int .i64 r]) (by simp [results, Tryd.results20, go_sem]) rfl ⟨rfl, ?_⟩
  exact (HB.out.trans (HB1.out.mono (by omega))).trans (hb2.mono (by omega))

theorem find_none (T BS BK : Nat) (s i : ID20) (m la : Int) (w : World) (h : Tab w T BS BK s m la (.slice none 0 0)) :
    Calls Tryd.prog 20 #[.pointer (some ⟨T, 0, none⟩), .agg (idv i)] w fun e w' => e = .returned (.tuple #[.pointer (some ⟨BK, 0, none⟩), .int .i64 (-1)]) ∧ Below w.heap.size w w' :=
  find_gen T BS BK s i m la (-1) _ w h (fun w1 _ => indexNone_any _ w1)
theorem find_hit (T BS BK ES n c E : Nat) (s a i : ID20) (m la : Int) (w : World) (h : Tab w T BS BK s m la (.slice (some ⟨ES, 0, none⟩) n c)) (hn : 0 < n)
    (he : w.cell? ⟨ES, 0, none⟩ = some (.pointer (some ⟨E, 0, none⟩))) (ha : idAt w E a) (lES : ES < w.heap.size) (lE : E < w.heap.size) (hq : (a.1 == i.1) = true) :
    Calls Tryd.prog 20 #[.pointer (some ⟨T, 0, none⟩), .agg (idv i)] w fun e w' => e = .returned (.tuple #[.pointer (some ⟨BK, 0, none⟩), .int .i64 0]) ∧ Below w.heap.size w w' := by
  refine find_gen T BS BK s i m la 0 _ w h (fun w1 hb => ?_)
  have b0 : Below w.heap.size w (w.alloc (.cells (idv i) 33)) := (Below.refl _ _).alloc (Nat.le_refl _) _
  refine indexHit_any ES n c E w.heap.size a i w1 hn ?_ ?_ ?_ hq
  · rw [hb.cell (p := ⟨ES, 0, none⟩) (by show ES < _; omega), b0.cell (p := ⟨ES, 0, none⟩) lES]; exact he
  · rw [idAt_below hb E a (by omega), idAt_below b0 E a lE]; exact ha
  · rw [idAt_below hb _ i (by omega), idAt_alloc, if_neg (by omega), hasId_self]; exact ⟨rfl, trivial⟩
theorem find_miss (T BS BK ES c E : Nat) (s a i : ID20) (m la : Int) (w : World) (h : Tab w T BS BK s m la (.slice (some ⟨ES, 0, none⟩) 1 c))
    (he : w.cell? ⟨ES, 0, none⟩ = some (.pointer (some ⟨E, 0, none⟩))) (ha : idAt w E a) (lES : ES < w.heap.size) (lE : E < w.heap.size) (hq : (a.1 == i.1) = false) :
    Calls Tryd.prog 20 #[.pointer (some ⟨T, 0, none⟩), .agg (idv i)] w fun e w' => e = .returned (.tuple #[.pointer (some ⟨BK, 0, none⟩), .int .i64 (-1)]) ∧ Below w.heap.size w w' := by
  refine find_gen T BS BK s i m la (-1) _ w h (fun w1 hb => ?_)
  have b0 : Below w.heap.size w (w.alloc (.cells (idv i) 33)) := (Below.refl _ _).alloc (Nat.le_refl _) _
  refine indexMiss_any ES c E w.heap.size a i w1 ?_ ?_ ?_ hq
  · rw [hb.cell (p := ⟨ES, 0, none⟩) (by show ES < _; omega), b0.cell (p := ⟨ES, 0, none⟩) lES]; exact he
  · rw [idAt_below hb E a (by omega), idAt_below b0 E a lE]; exact ha
  · rw [idAt_below hb _ i (by omega), idAt_alloc, if_neg (by omega), hasId_self]; exact ⟨rfl, trivial⟩
end Go.Proofs.Qxb6615986aDoor
