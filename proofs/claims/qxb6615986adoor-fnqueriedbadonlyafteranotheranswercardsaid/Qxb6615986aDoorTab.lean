import Derived.Test.Qxb6615986aDoorContact
namespace Go.Proofs.Qxb6615986aDoor
open Go.RowKit
attribute [-go_sem] loadVar storeVar Instr.build
attribute [-simp] Tryd.zeroValue49
attribute [local go_sem] lvs svs bds idAt_drew idAt_alloc hasId_self hasId_app idAt_setCell idAt_setCells cell_setCells frozen_setCells roomAt_drew roomAt_alloc hasRoom_cells

theorem app20 (s : ID20) (X : Array Value) : (idv s ++ X)[20]? = X[0]? := app_hi s X 0
theorem app21 (s : ID20) (X : Array Value) : (idv s ++ X)[21]? = X[1]? := app_hi s X 1
theorem app22 (s : ID20) (X : Array Value) : (idv s ++ X)[22]? = X[2]? := app_hi s X 2
theorem app23 (s : ID20) (X : Array Value) : (idv s ++ X)[23]? = X[3]? := app_hi s X 3
theorem app24 (s : ID20) (X : Array Value) : (idv s ++ X)[24]? = X[4]? := app_hi s X 4
theorem app25 (s : ID20) (X : Array Value) : (idv s ++ X)[25]? = X[5]? := app_hi s X 5
theorem app26 (s : ID20) (X : Array Value) : (idv s ++ X)[26]? = X[6]? := app_hi s X 6
theorem app27 (s : ID20) (X : Array Value) : (idv s ++ X)[27]? = X[7]? := app_hi s X 7
theorem app28 (s : ID20) (X : Array Value) : (idv s ++ X)[28]? = X[8]? := app_hi s X 8
theorem app29 (s : ID20) (X : Array Value) : (idv s ++ X)[29]? = X[9]? := app_hi s X 9
theorem app30 (s : ID20) (X : Array Value) : (idv s ++ X)[30]? = X[10]? := app_hi s X 10
theorem app31 (s : ID20) (X : Array Value) : (idv s ++ X)[31]? = X[11]? := app_hi s X 11
theorem app32 (s : ID20) (X : Array Value) : (idv s ++ X)[32]? = X[12]? := app_hi s X 12
theorem app33 (s : ID20) (X : Array Value) : (idv s ++ X)[33]? = X[13]? := app_hi s X 13
theorem app34 (s : ID20) (X : Array Value) : (idv s ++ X)[34]? = X[14]? := app_hi s X 14
attribute [local go_sem] app20 app21 app22 app23 app24 app25 app26 app27 app28 app29 app30 app31 app32 app33 app34

/-- the table's facts: its block T, the row BS of its buckets, its one bucket BK, its own id S, the lock's word m, the last answer's time la, the bucket's entries sl -/
structure Tab (W : World) (T BS BK : Nat) (S : ID20) (m la : Int) (sl : Value) : Prop where
  id : idAt W T S
  mu : W.cell? ⟨T, 20, none⟩ = some (.int .i32 m)
  bs : W.cell? ⟨T, 22, none⟩ = some (.slice (some ⟨BS, 0, none⟩) 1 1)
  a0 : W.cell? ⟨T, 23, none⟩ = some (.int .u64 (la % 1000000000))
  a1 : W.cell? ⟨T, 24, none⟩ = some (.int .i64 (la / 1000000000))
  a2 : W.cell? ⟨T, 25, none⟩ = some (.pointer none)
  bk : W.cell? ⟨BS, 0, none⟩ = some (.pointer (some ⟨BK, 0, none⟩))
  en : W.cell? ⟨BK, 0, none⟩ = some sl
  k1 : ∃ x, W.cell? ⟨BK, 1, none⟩ = some x
  k2 : ∃ x, W.cell? ⟨BK, 2, none⟩ = some x
  k3 : ∃ x, W.cell? ⟨BK, 3, none⟩ = some x
  fT : ∀ i, W.frozen? ⟨T, i, none⟩ = false
  fK : ∀ i, W.frozen? ⟨BK, i, none⟩ = false
  dTS : T ≠ BS
  dTK : T ≠ BK
  dSK : BS ≠ BK
  lT : T < W.heap.size
  lS : BS < W.heap.size
  lK : BK < W.heap.size

set_option maxRecDepth 8000 in
set_option maxHeartbeats 4000000 in
theorem newTable_any (s : ID20) (n : Int) (w : World) :
    Calls Tryd.prog 8 #[.agg (idv s), tm n] w fun e w' => ∃ T BS BK, e = .returned (.pointer (some ⟨T, 0, none⟩)) ∧ Below w.heap.size w w' ∧ Tab w' T BS BK s 0 0 (.slice none 0 0) ∧ w.heap.size ≤ T ∧ w.heap.size ≤ BS ∧ w.heap.size ≤ BK := by
  have l33 := ld33 w.heap.size s
  have b70 := build70 s
  unfold tm
  go_enter Tryd.func8, Tryd.ntmps8
  go_wp2
  go_ret
  refine ⟨_, w.heap.size + 1 + 1 + 1, w.heap.size + 1 + 1, rfl, ?_, ?_, by omega, by omega, by omega⟩
  · exact (((((Below.refl _ _).alloc (Nat.le_refl _) _).alloc (by simp) _).alloc (by simp; omega) _).alloc (by simp; omega) _).alloc (by simp; omega) _
  · constructor <;> simp [go_sem] <;> omega

set_option maxRecDepth 8000 in
set_option maxHeartbeats 4000000 in
theorem zznewTable_any (s : ID20) (n : Int) (w : World) (h0 : 0 ≤ n) (h1 : n ≤ 4611686018427387904) :
    Calls Tryd.prog 4 #[.agg (idv s), .int .i64 n] w fun e w' => ∃ T BS BK, e = .returned (.pointer (some ⟨T, 0, none⟩)) ∧ Below w.heap.size w w' ∧ Tab w' T BS BK s 0 0 (.slice none 0 0) ∧ w.heap.size ≤ T ∧ w.heap.size ≤ BS ∧ w.heap.size ≤ BK := by
  have l22 := ld22 w.heap.size s
  have ht := fun W => zztime_any n W h0 h1
  have hn := fun W => newTable_any s n W
  go_enter Tryd.func4, Tryd.ntmps4
  go_wp2_with fail
  go_region_with (first | (go_at_call 9; refine (ht _).mono ?_; rintro e w1 ⟨rfl, hb1⟩; have hi1 := fun b s => idAt_below hb1 b s) | (go_at_call 8; refine (hn _).mono ?_; rintro e w2 ⟨T, BS, BK, rfl, hb2, hT, g1, g2, g3⟩))
  all_goals
    go_wp2_with fail
    go_ret
    have z1 : w.heap.size + 1 ≤ w1.heap.size := by simpa using hb1.size
    refine ⟨T, BS, BK, rfl, ?_, hT, by omega, by omega, by omega⟩
    exact ((((Below.refl _ _).alloc (Nat.le_refl _) _).drew).trans (hb1.mono (by simp))).trans (hb2.mono (by omega))
end Go.Proofs.Qxb6615986aDoor
