import Derived.Test.Qxb6615986aDoorLawI
set_option linter.unusedSimpArgs false
namespace Go.Proofs.Qxb6615986aDoor
open Go.RowKit Go.MuLone
attribute [-go_sem] loadVar storeVar Instr.build
attribute [-simp] Tryd.zeroValue49 Tryd.zeroValue33
attribute [local go_sem] lvs svs bds

set_option maxRecDepth 8000 in
set_option maxHeartbeats 4000000 in
theorem law_out0 (s i o : ID20) (p po : Nat → Int) (q qo nf ta tf tb t1 t2 : Int) (w : World)  (h : nf < 0) : Calls Tryd.prog 3 #[.agg (idv s), .agg (pv i p q), .agg (pv o po qo), .int .i64 nf, .int .i64 ta, .int .i64 tf, .int .i64 tb, .int .i64 t1, .int .i64 t2] w fun e w' => e = .returned (.bool true) ∧ Below w.heap.size w w' := by
  have u : decide (nf < 0) = true := by simpa using h
  go_enter Tryd.func3, Tryd.ntmps3
  go_wp2_with fail
  go_ret
  exact ⟨rfl, (((Below.refl _ _).alloc (Nat.le_refl _) _).alloc (by simp) _).alloc (by simp; omega) _⟩
set_option maxRecDepth 8000 in
set_option maxHeartbeats 4000000 in
theorem law_out1 (s i o : ID20) (p po : Nat → Int) (q qo nf ta tf tb t1 t2 : Int) (w : World) (h0 : ¬ nf < 0) (h : 65536 < nf) : Calls Tryd.prog 3 #[.agg (idv s), .agg (pv i p q), .agg (pv o po qo), .int .i64 nf, .int .i64 ta, .int .i64 tf, .int .i64 tb, .int .i64 t1, .int .i64 t2] w fun e w' => e = .returned (.bool true) ∧ Below w.heap.size w w' := by
  have u0 : decide (nf < 0) = false := by simpa using h0
  have u : decide (65536 < nf) = true := by simpa using h
  go_enter Tryd.func3, Tryd.ntmps3
  go_wp2_with fail
  go_ret
  exact ⟨rfl, (((Below.refl _ _).alloc (Nat.le_refl _) _).alloc (by simp) _).alloc (by simp; omega) _⟩
set_option maxRecDepth 8000 in
set_option maxHeartbeats 4000000 in
theorem law_out2 (s i o : ID20) (p po : Nat → Int) (q qo nf ta tf tb t1 t2 : Int) (w : World) (h0 : ¬ nf < 0) (h1 : ¬ 65536 < nf) (h : ta < 0) : Calls Tryd.prog 3 #[.agg (idv s), .agg (pv i p q), .agg (pv o po qo), .int .i64 nf, .int .i64 ta, .int .i64 tf, .int .i64 tb, .int .i64 t1, .int .i64 t2] w fun e w' => e = .returned (.bool true) ∧ Below w.heap.size w w' := by
  have u0 : decide (nf < 0) = false := by simpa using h0
  have u1 : decide (65536 < nf) = false := by simpa using h1
  have u : decide (ta < 0) = true := by simpa using h
  go_enter Tryd.func3, Tryd.ntmps3
  go_wp2_with fail
  go_ret
  exact ⟨rfl, (((Below.refl _ _).alloc (Nat.le_refl _) _).alloc (by simp) _).alloc (by simp; omega) _⟩
set_option maxRecDepth 8000 in
set_option maxHeartbeats 4000000 in
theorem law_out3 (s i o : ID20) (p po : Nat → Int) (q qo nf ta tf tb t1 t2 : Int) (w : World) (h0 : ¬ nf < 0) (h1 : ¬ 65536 < nf) (h2 : ¬ ta < 0) (h : 4611686018427387904 < ta) : Calls Tryd.prog 3 #[.agg (idv s), .agg (pv i p q), .agg (pv o po qo), .int .i64 nf, .int .i64 ta, .int .i64 tf, .int .i64 tb, .int .i64 t1, .int .i64 t2] w fun e w' => e = .returned (.bool true) ∧ Below w.heap.size w w' := by
  have u0 : decide (nf < 0) = false := by simpa using h0
  have u1 : decide (65536 < nf) = false := by simpa using h1
  have u2 : decide (ta < 0) = false := by simpa using h2
  have u : decide (4611686018427387904 < ta) = true := by simpa using h
  go_enter Tryd.func3, Tryd.ntmps3
  go_wp2_with fail
  go_ret
  exact ⟨rfl, (((Below.refl _ _).alloc (Nat.le_refl _) _).alloc (by simp) _).alloc (by simp; omega) _⟩
set_option maxRecDepth 8000 in
set_option maxHeartbeats 4000000 in
theorem law_out4 (s i o : ID20) (p po : Nat → Int) (q qo nf ta tf tb t1 t2 : Int) (w : World) (h0 : ¬ nf < 0) (h1 : ¬ 65536 < nf) (h2 : ¬ ta < 0) (h3 : ¬ 4611686018427387904 < ta) (h : tf < 0) : Calls Tryd.prog 3 #[.agg (idv s), .agg (pv i p q), .agg (pv o po qo), .int .i64 nf, .int .i64 ta, .int .i64 tf, .int .i64 tb, .int .i64 t1, .int .i64 t2] w fun e w' => e = .returned (.bool true) ∧ Below w.heap.size w w' := by
  have u0 : decide (nf < 0) = false := by simpa using h0
  have u1 : decide (65536 < nf) = false := by simpa using h1
  have u2 : decide (ta < 0) = false := by simpa using h2
  have u3 : decide (4611686018427387904 < ta) = false := by simpa using h3
  have u : decide (tf < 0) = true := by simpa using h
  go_enter Tryd.func3, Tryd.ntmps3
  go_wp2_with fail
  go_ret
  exact ⟨rfl, (((Below.refl _ _).alloc (Nat.le_refl _) _).alloc (by simp) _).alloc (by simp; omega) _⟩
set_option maxRecDepth 8000 in
set_option maxHeartbeats 4000000 in
theorem law_out5 (s i o : ID20) (p po : Nat → Int) (q qo nf ta tf tb t1 t2 : Int) (w : World) (h0 : ¬ nf < 0) (h1 : ¬ 65536 < nf) (h2 : ¬ ta < 0) (h3 : ¬ 4611686018427387904 < ta) (h4 : ¬ tf < 0) (h : 4611686018427387904 < tf) : Calls Tryd.prog 3 #[.agg (idv s), .agg (pv i p q), .agg (pv o po qo), .int .i64 nf, .int .i64 ta, .int .i64 tf, .int .i64 tb, .int .i64 t1, .int .i64 t2] w fun e w' => e = .returned (.bool true) ∧ Below w.heap.size w w' := by
  have u0 : decide (nf < 0) = false := by simpa using h0
  have u1 : decide (65536 < nf) = false := by simpa using h1
  have u2 : decide (ta < 0) = false := by simpa using h2
  have u3 : decide (4611686018427387904 < ta) = false := by simpa using h3
  have u4 : decide (tf < 0) = false := by simpa using h4
  have u : decide (4611686018427387904 < tf) = true := by simpa using h
  go_enter Tryd.func3, Tryd.ntmps3
  go_wp2_with fail
  go_ret
  exact ⟨rfl, (((Below.refl _ _).alloc (Nat.le_refl _) _).alloc (by simp) _).alloc (by simp; omega) _⟩
set_option maxRecDepth 8000 in
set_option maxHeartbeats 4000000 in
theorem law_out6 (s i o : ID20) (p po : Nat → Int) (q qo nf ta tf tb t1 t2 : Int) (w : World) (h0 : ¬ nf < 0) (h1 : ¬ 65536 < nf) (h2 : ¬ ta < 0) (h3 : ¬ 4611686018427387904 < ta) (h4 : ¬ tf < 0) (h5 : ¬ 4611686018427387904 < tf) (h : tb < 0) : Calls Tryd.prog 3 #[.agg (idv s), .agg (pv i p q), .agg (pv o po qo), .int .i64 nf, .int .i64 ta, .int .i64 tf, .int .i64 tb, .int .i64 t1, .int .i64 t2] w fun e w' => e = .returned (.bool true) ∧ Below w.heap.size w w' := by
  have u0 : decide (nf < 0) = false := by simpa using h0
  have u1 : decide (65536 < nf) = false := by simpa using h1
  have u2 : decide (ta < 0) = false := by simpa using h2
  have u3 : decide (4611686018427387904 < ta) = false := by simpa using h3
  have u4 : decide (tf < 0) = false := by simpa using h4
  have u5 : decide (4611686018427387904 < tf) = false := by simpa using h5
  have u : decide (tb < 0) = true := by simpa using h
  go_enter Tryd.func3, Tryd.ntmps3
  go_wp2_with fail
  go_ret
  exact ⟨rfl, (((Below.refl _ _).alloc (Nat.le_refl _) _).alloc (by simp) _).alloc (by simp; omega) _⟩
set_option maxRecDepth 8000 in
set_option maxHeartbeats 4000000 in
theorem law_out7 (s i o : ID20) (p po : Nat → Int) (q qo nf ta tf tb t1 t2 : Int) (w : World) (h0 : ¬ nf < 0) (h1 : ¬ 65536 < nf) (h2 : ¬ ta < 0) (h3 : ¬ 4611686018427387904 < ta) (h4 : ¬ tf < 0) (h5 : ¬ 4611686018427387904 < tf) (h6 : ¬ tb < 0) (h : 4611686018427387904 < tb) : Calls Tryd.prog 3 #[.agg (idv s), .agg (pv i p q), .agg (pv o po qo), .int .i64 nf, .int .i64 ta, .int .i64 tf, .int .i64 tb, .int .i64 t1, .int .i64 t2] w fun e w' => e = .returned (.bool true) ∧ Below w.heap.size w w' := by
  have u0 : decide (nf < 0) = false := by simpa using h0
  have u1 : decide (65536 < nf) = false := by simpa using h1
  have u2 : decide (ta < 0) = false := by simpa using h2
  have u3 : decide (4611686018427387904 < ta) = false := by simpa using h3
  have u4 : decide (tf < 0) = false := by simpa using h4
  have u5 : decide (4611686018427387904 < tf) = false := by simpa using h5
  have u6 : decide (tb < 0) = false := by simpa using h6
  have u : decide (4611686018427387904 < tb) = true := by simpa using h
  go_enter Tryd.func3, Tryd.ntmps3
  go_wp2_with fail
  go_ret
  exact ⟨rfl, (((Below.refl _ _).alloc (Nat.le_refl _) _).alloc (by simp) _).alloc (by simp; omega) _⟩
set_option maxRecDepth 8000 in
set_option maxHeartbeats 4000000 in
theorem law_out8 (s i o : ID20) (p po : Nat → Int) (q qo nf ta tf tb t1 t2 : Int) (w : World) (h0 : ¬ nf < 0) (h1 : ¬ 65536 < nf) (h2 : ¬ ta < 0) (h3 : ¬ 4611686018427387904 < ta) (h4 : ¬ tf < 0) (h5 : ¬ 4611686018427387904 < tf) (h6 : ¬ tb < 0) (h7 : ¬ 4611686018427387904 < tb) (h : t1 < 0) : Calls Tryd.prog 3 #[.agg (idv s), .agg (pv i p q), .agg (pv o po qo), .int .i64 nf, .int .i64 ta, .int .i64 tf, .int .i64 tb, .int .i64 t1, .int .i64 t2] w fun e w' => e = .returned (.bool true) ∧ Below w.heap.size w w' := by
  have u0 : decide (nf < 0) = false := by simpa using h0
  have u1 : decide (65536 < nf) = false := by simpa using h1
  have u2 : decide (ta < 0) = false := by simpa using h2
  have u3 : decide (4611686018427387904 < ta) = false := by simpa using h3
  have u4 : decide (tf < 0) = false := by simpa using h4
  have u5 : decide (4611686018427387904 < tf) = false := by simpa using h5
  have u6 : decide (tb < 0) = false := by simpa using h6
  have u7 : decide (4611686018427387904 < tb) = false := by simpa using h7
  have u : decide (t1 < 0) = true := by simpa using h
  go_enter Tryd.func3, Tryd.ntmps3
  go_wp2_with fail
  go_ret
  exact ⟨rfl, (((Below.refl _ _).alloc (Nat.le_refl _) _).alloc (by simp) _).alloc (by simp; omega) _⟩
set_option maxRecDepth 8000 in
set_option maxHeartbeats 4000000 in
theorem law_out9 (s i o : ID20) (p po : Nat → Int) (q qo nf ta tf tb t1 t2 : Int) (w : World) (h0 : ¬ nf < 0) (h1 : ¬ 65536 < nf) (h2 : ¬ ta < 0) (h3 : ¬ 4611686018427387904 < ta) (h4 : ¬ tf < 0) (h5 : ¬ 4611686018427387904 < tf) (h6 : ¬ tb < 0) (h7 : ¬ 4611686018427387904 < tb) (h8 : ¬ t1 < 0) (h : 4611686018427387904 < t1) : Calls Tryd.prog 3 #[.agg (idv s), .agg (pv i p q), .agg (pv o po qo), .int .i64 nf, .int .i64 ta, .int .i64 tf, .int .i64 tb, .int .i64 t1, .int .i64 t2] w fun e w' => e = .returned (.bool true) ∧ Below w.heap.size w w' := by
  have u0 : decide (nf < 0) = false := by simpa using h0
  have u1 : decide (65536 < nf) = false := by simpa using h1
  have u2 : decide (ta < 0) = false := by simpa using h2
  have u3 : decide (4611686018427387904 < ta) = false := by simpa using h3
  have u4 : decide (tf < 0) = false := by simpa using h4
  have u5 : decide (4611686018427387904 < tf) = false := by simpa using h5
  have u6 : decide (tb < 0) = false := by simpa using h6
  have u7 : decide (4611686018427387904 < tb) = false := by simpa using h7
  have u8 : decide (t1 < 0) = false := by simpa using h8
  have u : decide (4611686018427387904 < t1) = true := by simpa using h
  go_enter Tryd.func3, Tryd.ntmps3
  go_wp2_with fail
  go_ret
  exact ⟨rfl, (((Below.refl _ _).alloc (Nat.le_refl _) _).alloc (by simp) _).alloc (by simp; omega) _⟩
set_option maxRecDepth 8000 in
set_option maxHeartbeats 4000000 in
theorem law_out10 (s i o : ID20) (p po : Nat → Int) (q qo nf ta tf tb t1 t2 : Int) (w : World) (h0 : ¬ nf < 0) (h1 : ¬ 65536 < nf) (h2 : ¬ ta < 0) (h3 : ¬ 4611686018427387904 < ta) (h4 : ¬ tf < 0) (h5 : ¬ 4611686018427387904 < tf) (h6 : ¬ tb < 0) (h7 : ¬ 4611686018427387904 < tb) (h8 : ¬ t1 < 0) (h9 : ¬ 4611686018427387904 < t1) (h : t2 < 0) : Calls Tryd.prog 3 #[.agg (idv s), .agg (pv i p q), .agg (pv o po qo), .int .i64 nf, .int .i64 ta, .int .i64 tf, .int .i64 tb, .int .i64 t1, .int .i64 t2] w fun e w' => e = .returned (.bool true) ∧ Below w.heap.size w w' := by
  have u0 : decide (nf < 0) = false := by simpa using h0
  have u1 : decide (65536 < nf) = false := by simpa using h1
  have u2 : decide (ta < 0) = false := by simpa using h2
  have u3 : decide (4611686018427387904 < ta) = false := by simpa using h3
  have u4 : decide (tf < 0) = false := by simpa using h4
  have u5 : decide (4611686018427387904 < tf) = false := by simpa using h5
  have u6 : decide (tb < 0) = false := by simpa using h6
  have u7 : decide (4611686018427387904 < tb) = false := by simpa using h7
  have u8 : decide (t1 < 0) = false := by simpa using h8
  have u9 : decide (4611686018427387904 < t1) = false := by simpa using h9
  have u : decide (t2 < 0) = true := by simpa using h
  go_enter Tryd.func3, Tryd.ntmps3
  go_wp2_with fail
  go_ret
  exact ⟨rfl, (((Below.refl _ _).alloc (Nat.le_refl _) _).alloc (by simp) _).alloc (by simp; omega) _⟩
set_option maxRecDepth 8000 in
set_option maxHeartbeats 4000000 in
theorem law_out11 (s i o : ID20) (p po : Nat → Int) (q qo nf ta tf tb t1 t2 : Int) (w : World) (h0 : ¬ nf < 0) (h1 : ¬ 65536 < nf) (h2 : ¬ ta < 0) (h3 : ¬ 4611686018427387904 < ta) (h4 : ¬ tf < 0) (h5 : ¬ 4611686018427387904 < tf) (h6 : ¬ tb < 0) (h7 : ¬ 4611686018427387904 < tb) (h8 : ¬ t1 < 0) (h9 : ¬ 4611686018427387904 < t1) (h10 : ¬ t2 < 0) (h : 4611686018427387904 < t2) : Calls Tryd.prog 3 #[.agg (idv s), .agg (pv i p q), .agg (pv o po qo), .int .i64 nf, .int .i64 ta, .int .i64 tf, .int .i64 tb, .int .i64 t1, .int .i64 t2] w fun e w' => e = .returned (.bool true) ∧ Below w.heap.size w w' := by
  have u0 : decide (nf < 0) = false := by simpa using h0
  have u1 : decide (65536 < nf) = false := by simpa using h1
  have u2 : decide (ta < 0) = false := by simpa using h2
  have u3 : decide (4611686018427387904 < ta) = false := by simpa using h3
  have u4 : decide (tf < 0) = false := by simpa using h4
  have u5 : decide (4611686018427387904 < tf) = false := by simpa using h5
  have u6 : decide (tb < 0) = false := by simpa using h6
  have u7 : decide (4611686018427387904 < tb) = false := by simpa using h7
  have u8 : decide (t1 < 0) = false := by simpa using h8
  have u9 : decide (4611686018427387904 < t1) = false := by simpa using h9
  have u10 : decide (t2 < 0) = false := by simpa using h10
  have u : decide (4611686018427387904 < t2) = true := by simpa using h
  go_enter Tryd.func3, Tryd.ntmps3
  go_wp2_with fail
  go_ret
  exact ⟨rfl, (((Below.refl _ _).alloc (Nat.le_refl _) _).alloc (by simp) _).alloc (by simp; omega) _⟩
/-- THE LAW, whatever the input -/
theorem law_any (s i o : ID20) (p po : Nat → Int) (q qo nf ta tf tb t1 t2 : Int) (z : Addr) (w : World) (hp : ∀ i, 0 ≤ p i ∧ p i < 256) (hpo : ∀ i, 0 ≤ po i ∧ po i < 256) (hz : w.cell? ⟨0, 0, none⟩ = some (.pointer (some z))) (hsz : 0 < w.heap.size) : Calls Tryd.prog 3 #[.agg (idv s), .agg (pv i p q), .agg (pv o po qo), .int .i64 nf, .int .i64 ta, .int .i64 tf, .int .i64 tb, .int .i64 t1, .int .i64 t2] w fun e w' => e = .returned (.bool true) ∧ Below w.heap.size w w' := by
  by_cases h0 : nf < 0
  · exact law_out0 s i o p po q qo nf ta tf tb t1 t2 w  h0
  by_cases h1 : 65536 < nf
  · exact law_out1 s i o p po q qo nf ta tf tb t1 t2 w h0 h1
  by_cases h2 : ta < 0
  · exact law_out2 s i o p po q qo nf ta tf tb t1 t2 w h0 h1 h2
  by_cases h3 : 4611686018427387904 < ta
  · exact law_out3 s i o p po q qo nf ta tf tb t1 t2 w h0 h1 h2 h3
  by_cases h4 : tf < 0
  · exact law_out4 s i o p po q qo nf ta tf tb t1 t2 w h0 h1 h2 h3 h4
  by_cases h5 : 4611686018427387904 < tf
  · exact law_out5 s i o p po q qo nf ta tf tb t1 t2 w h0 h1 h2 h3 h4 h5
  by_cases h6 : tb < 0
  · exact law_out6 s i o p po q qo nf ta tf tb t1 t2 w h0 h1 h2 h3 h4 h5 h6
  by_cases h7 : 4611686018427387904 < tb
  · exact law_out7 s i o p po q qo nf ta tf tb t1 t2 w h0 h1 h2 h3 h4 h5 h6 h7
  by_cases h8 : t1 < 0
  · exact law_out8 s i o p po q qo nf ta tf tb t1 t2 w h0 h1 h2 h3 h4 h5 h6 h7 h8
  by_cases h9 : 4611686018427387904 < t1
  · exact law_out9 s i o p po q qo nf ta tf tb t1 t2 w h0 h1 h2 h3 h4 h5 h6 h7 h8 h9
  by_cases h10 : t2 < 0
  · exact law_out10 s i o p po q qo nf ta tf tb t1 t2 w h0 h1 h2 h3 h4 h5 h6 h7 h8 h9 h10
  by_cases h11 : 4611686018427387904 < t2
  · exact law_out11 s i o p po q qo nf ta tf tb t1 t2 w h0 h1 h2 h3 h4 h5 h6 h7 h8 h9 h10 h11
  by_cases his : (i.1 == s.1) = true
  · exact law_self s i o p po q qo nf ta tf tb t1 t2 z w hp hpo hz hsz (by omega) (by omega) (by omega) (by omega) (by omega) (by omega) (by omega) (by omega) (by omega) (by omega) (by omega) (by omega) his
  · exact law_other s i o p po q qo nf ta tf tb t1 t2 z w hp hpo hz hsz (by omega) (by omega) (by omega) (by omega) (by omega) (by omega) (by omega) (by omega) (by omega) (by omega) (by omega) (by omega) (by simpa using his)
end Go.Proofs.Qxb6615986aDoor
