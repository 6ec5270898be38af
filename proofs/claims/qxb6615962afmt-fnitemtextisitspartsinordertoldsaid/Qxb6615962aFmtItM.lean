import Derived.Test.Qxb6615962aFmtItL0
import Derived.OwnWalk
import Derived.BigQuiet
set_option linter.unusedSimpArgs false
set_option linter.defProp false
namespace Go.Proofs.Qxb6615962aFmt
open Go.RowKit Go.Stop
attribute [-go_sem] loadVar
def lv23 (t : TypeId) (a : Addr) (_h : (t == 42 || t == 23) = false) := loadVar.eq_1 t a
attribute [local go_sem] lv23
theorem info47 : (Tryf.prog.info? 47).map (fun i => (i.zero, i.size, i.bytes)) = some (some (.agg #[.int .i64 0, .int .i64 0]), 2, 16) := by kernel_rfl
/-- the months' cells, the first k of them laid -/
def Mo (W : World) (n D : Nat) (mo : Nat → Nat) (s : ByteArray) (k : Nat) : Prop :=
  (∀ j, j < 12 → W.cell? ⟨n, j, none⟩ = some (.int .u64 (mo j : Int))) ∧ (∀ j, j < 12 → W.cell? ⟨D, j, none⟩ = some (.int .u64 (if j < k then (mo j : Int) else 0))) ∧ W.cell? ⟨D, 12, none⟩ = some (.string s) ∧ (∀ j, W.frozen? ⟨D, j, none⟩ = false) ∧ n ≠ D
theorem Mo.step {W : World} {n D : Nat} {mo : Nat → Nat} {s : ByteArray} {k : Nat} (h : Mo W n D mo s k) (hk : k < 12) : Mo (W.setCell ⟨D, k, none⟩ (.int .u64 (mo k : Int))).drew n D mo s (k + 1) := by
  obtain ⟨h1, h2, h3, h4, h5⟩ := h
  refine ⟨fun j hj => ?_, fun j hj => ?_, ?_, fun j => ?_, h5⟩
  · show (W.setCell ⟨D, k, none⟩ (.int .u64 (mo k : Int))).cell? ⟨n, j, none⟩ = _
    rw [World.cell?_of_block (Below.heap_setCell _ _ _ _ h5)]
    exact h1 j hj
  · show (W.setCell ⟨D, k, none⟩ (.int .u64 (mo k : Int))).cell? ⟨D, j, none⟩ = _
    by_cases e : k = j
    · subst e
      rw [World.cell?_setCell_same _ _ _ (h2 k hj), if_pos (by omega)]
    · rw [World.cell?_setCell_other _ _ _ _ (by simp only [ne_eq, Addr.mk.injEq, not_and]; exact fun _ e' => absurd e' e), h2 j hj]
      by_cases hjk : j < k
      · rw [if_pos hjk, if_pos (by omega)]
      · rw [if_neg hjk, if_neg (by omega)]
  · show (W.setCell ⟨D, k, none⟩ (.int .u64 (mo k : Int))).cell? ⟨D, 12, none⟩ = _
    rw [World.cell?_setCell_other _ _ _ _ (by simp only [ne_eq, Addr.mk.injEq, not_and]; intro _ e'; omega)]
    exact h3
  · show (W.setCell ⟨D, k, none⟩ (.int .u64 (mo k : Int))).frozen? ⟨D, j, none⟩ = _
    simpa using h4 j
/-- the cells of clock ranges -/
def tcs (ts : List (Int × Int)) : List Value := ts.flatMap fun t => [.int .i64 t.1, .int .i64 t.2]
theorem tcs_get (ts : List (Int × Int)) (j : Nat) (t : Int × Int) (h : ts[j]? = some t) : (tcs ts)[j * 2]? = some (.int .i64 t.1) ∧ (tcs ts)[j * 2 + 1]? = some (.int .i64 t.2) := by
  induction ts generalizing j with
  | nil => cases h
  | cons a r ih =>
    cases j with
    | zero =>
      have : a = t := by simpa using h
      subst this
      exact ⟨rfl, rfl⟩
    | succ j =>
      have := ih j (by simpa using h)
      rw [show (j + 1) * 2 = j * 2 + 1 + 1 by omega]
      exact this
set_option maxHeartbeats 8000000 in
set_option maxRecDepth 8000 in
theorem newClause_any (mo : Nat → Nat) (s : ByteArray) (wd : Nat) (tv : Value) (ts : List (Int × Int)) (hts : ts.length ≤ 1000000) (w : World) (hT : Times w tv ts) :
    Calls Tryf.prog 8 #[.agg (mv mo), .string s, .int .u64 (wd : Int), tv] w fun e w' => ∃ c D tv', e = .returned (.pointer (some ⟨c, 0, none⟩)) ∧ Cl w' c D mo s wd tv' ts ∧ Below w.heap.size w w' := by
  obtain ⟨ao, cap, rfl, hcap, hTc⟩ := hT
  have HT : Hid (∀ (j : Nat) (t : Int × Int), ts[j]? = some t → ∃ g, ao = some ⟨g, 0, none⟩ ∧ w.cell? ⟨g, j * 2, none⟩ = some (.int .i64 t.1) ∧ w.cell? ⟨g, j * 2 + 1, none⟩ = some (.int .i64 t.2)) := hTc
  clear hTc
  obtain ⟨i0, hi, hz0, hz1, hz2⟩ := info_parts info47
  go_enter Tryf.func8, Tryf.ntmps8
  go_wp2_with fail
  have hM0 : Mo ((w.alloc (.cells (mv mo) 23)).alloc (.cells #[.int .u64 0, .int .u64 0, .int .u64 0, .int .u64 0, .int .u64 0, .int .u64 0, .int .u64 0, .int .u64 0, .int .u64 0, .int .u64 0, .int .u64 0, .int .u64 0, .string s] 44)) w.heap.size (w.heap.size + 1) mo s 0 := by
    have e : w.heap.size + 1 = (w.alloc (.cells (mv mo) 23)).heap.size := by simp
    refine ⟨fun j hj => ?_, fun j hj => ?_, ?_, fun j => ?_, by omega⟩
    · rw [World.cell?_alloc_lt _ _ ⟨w.heap.size, j, none⟩ (by simp), World.cell?_alloc_new]
      exact mv_get mo j hj
    · rw [e, World.cell?_alloc_new]
      rcases (by omega : j = 0 ∨ j = 1 ∨ j = 2 ∨ j = 3 ∨ j = 4 ∨ j = 5 ∨ j = 6 ∨ j = 7 ∨ j = 8 ∨ j = 9 ∨ j = 10 ∨ j = 11) with rfl | rfl | rfl | rfl | rfl | rfl | rfl | rfl | rfl | rfl | rfl | rfl <;> rfl
    · rw [e, World.cell?_alloc_new]; rfl
    · simp
  have hb0 : Below w.heap.size w ((w.alloc (.cells (mv mo) 23)).alloc (.cells #[.int .u64 0, .int .u64 0, .int .u64 0, .int .u64 0, .int .u64 0, .int .u64 0, .int .u64 0, .int .u64 0, .int .u64 0, .int .u64 0, .int .u64 0, .int .u64 0, .string s] 44)) := ((Below.refl _ _).alloc (Nat.le_refl _) _).alloc (by simp) _
  have hz0' : w.heap.size + 1 + 1 ≤ ((w.alloc (.cells (mv mo) 23)).alloc (.cells #[.int .u64 0, .int .u64 0, .int .u64 0, .int .u64 0, .int .u64 0, .int .u64 0, .int .u64 0, .int .u64 0, .int .u64 0, .int .u64 0, .int .u64 0, .int .u64 0, .string s] 44)).heap.size := by simp
  generalize (w.alloc (.cells (mv mo) 23)).alloc (.cells #[.int .u64 0, .int .u64 0, .int .u64 0, .int .u64 0, .int .u64 0, .int .u64 0, .int .u64 0, .int .u64 0, .int .u64 0, .int .u64 0, .int .u64 0, .int .u64 0, .string s] 44) = V at *
  have HV : Hid (Mo V w.heap.size (w.heap.size + 1) mo s 0 ∧ Below w.heap.size w V ∧ w.heap.size + 1 + 1 ≤ V.heap.size) := ⟨hM0, hb0, hz0'⟩
  clear hM0 hb0 hz0'
  go_loopw [18] (fun i wr => ∃ k : Nat, i = .int .i64 (k : Int) ∧ k ≤ 12 ∧ Hid (Mo wr w.heap.size (w.heap.size + 1) mo s k ∧ Below w.heap.size w wr ∧ w.heap.size + 1 + 1 ≤ wr.heap.size)) (fun i _ => 12 - (intOf i).toNat)
  case atStart => exact ⟨0, rfl, by omega, HV⟩
  case round =>
  obtain ⟨k, rfl, hk, HM⟩ := hrel
  by_cases hlt : k < 12
  · have hlt1 : decide ((k : Int) < 12) = true := by simp; omega
    have hki : (k : Int) < 12 := by omega
    have g1 := HM.out.1.1 k hlt
    have g2 := HM.out.1.2.1 k hlt
    have g3 := HM.out.1.2.2.2.1 k
    have hwk : IntKind.i64.wrap ((k : Int) + 1) = (k : Int) + 1 := by rw [IntKind.wrap_i64]; omega
    have hne : ¬ w.heap.size = w.heap.size + 1 := by omega
    go_wp2_with fail
    go_region
    all_goals go_wp2_with fail
    refine ⟨⟨k + 1, by simp, by omega, HM.out.1.step hlt, ?_, ?_⟩, by simp [intOf]; omega⟩
    · exact (HM.out.2.1.setCell (p := ⟨w.heap.size + 1, k, none⟩) (by show w.heap.size ≤ w.heap.size + 1; omega) _).drew
    · show _ ≤ (wr.setCell ⟨w.heap.size + 1, k, none⟩ (.int .u64 (mo k : Int))).heap.size
      have := HM.out.2.2
      simpa [World.setCell] using this
  · obtain rfl : k = 12 := by omega
    go_wp2_with fail
    obtain ⟨wL, hL⟩ : ∃ W, W = wr := ⟨_, rfl⟩
    have HL : Hid (Mo wL w.heap.size (w.heap.size + 1) mo s 12 ∧ Below w.heap.size w wL ∧ w.heap.size + 1 + 1 ≤ wL.heap.size) := by rw [hL]; exact HM
    rw [← hL]
    clear hL HM
    go_loopw [11, 32] (fun v i wq => ∃ k : Nat, i = .int .i64 (k : Int) ∧ k ≤ ts.length ∧ Hid (wq.ownsRow wL.heap.size 47 2 v k (tcs (ts.take k)) ∧ Below wL.heap.size wL wq)) (fun _ i _ => ts.length - (intOf i).toNat)
    case atStart => exact ⟨0, rfl, by omega, World.ownsRow_nil _ _ _ _, Below.refl _ _⟩
    case round =>
    obtain ⟨k, rfl, hk', HR⟩ := hrel
    by_cases hlt2 : k < ts.length
    · have hki : (k : Int) < (ts.length : Int) := by omega
      obtain ⟨g, rfl, hg1, hg2⟩ := HT.out k ts[k] (List.getElem?_eq_getElem hlt2)
      have htk : ts[k]? = some ts[k] := List.getElem?_eq_getElem hlt2
      have hbw : Below w.heap.size w wr := HL.out.2.1.trans (HR.out.2.mono HL.out.2.1.size)
      have k1 := cell_keep hbw hg1
      have k2 := cell_keep hbw hg2
      have hg0 : g < wr.heap.size := World.block_lt_of_cell? wr ⟨g, k * 2, none⟩ k1
      have hgn : ¬ g = wr.heap.size := by omega
      have hwk : IntKind.i64.wrap ((k : Int) + 1) = (k : Int) + 1 := by rw [IntKind.wrap_i64]; omega
      generalize ts[k] = t at *
      have hro := HR.out.1
      have hbq := HR.out.2.size
      go_wp2_with (at_builtin; refine wpList_append_own _ rfl _ _ 45 rfl wL.heap.size 47 i0 (.agg #[.int .i64 0, .int .i64 0]) 2 16 Tryf.underlying45 hi hz0 hz1 hz2 rfl (by decide) _ _ _ rfl ((hro.alloc _).alloc _) ⟨wr.heap.size + 1, 0, none⟩ 1 1 [.int .i64 t.1, .int .i64 t.2] rfl rfl ?c1 ?c2 ?c3 ?c4 ?c5 ?_)
      case c1 =>
        intro j u hj
        match j, hj with
        | 0, hj =>
          have : Value.int .i64 t.1 = u := by simpa using hj
          rw [← this]
          simp [Addr.add]
        | 1, hj =>
          have : Value.int .i64 t.2 = u := by simpa using hj
          rw [← this]
          simp [Addr.add]
      case c2 => intro u hu; simp at hu; rcases hu with rfl | rfl <;> rfl
      case c3 => unfold maxLen; omega
      case c4 => omega
      case c5 => simp; omega
      intro v' w2 hown2 hgrow2 _
      obtain ⟨g', cap', rfl⟩ := ownsRow_succ hown2
      have HN : Hid (w2.ownsRow wL.heap.size 47 2 (.slice (some ⟨g', 0, none⟩) (k + 1) cap') (k + 1) (tcs (ts.take (k + 1))) ∧ Below wL.heap.size wL w2) := by
        refine ⟨?_, ?_⟩
        · rw [List.take_add_one, htk]
          simp only [tcs, Option.toList_some, List.flatMap_append, List.flatMap_cons, List.flatMap_nil, List.append_nil]
          exact hown2
        · have hba := (HR.out.2.alloc hbq (.cells #[.int .i64 t.1, .int .i64 t.2] 30)).alloc (by simp; omega) (.cells #[.int .i64 t.1, .int .i64 t.2] 47)
          exact hba.grown hgrow2 (by simp; omega) (fun j hj => (hro.lt j hj).1)
      clear hown2 hgrow2 hro k1 k2
      go_wp2_with fail
      refine ⟨⟨_, _, _, _, _, _, _, _, _, _, _, _, _, _, _, ⟨k + 1, by simp, by omega, HN⟩, rfl⟩, ?_⟩
      simp [intOf]
      omega
    · obtain rfl : k = ts.length := by omega
      obtain ⟨ao2, c2, hu11⟩ : ∃ a c, u11 = .slice a ts.length c := by
        rcases HR.out.1.2 with ⟨h, h0⟩ | ⟨g, cp, cur, h, _⟩
        · exact ⟨none, 0, by rw [h, h0]⟩
        · exact ⟨_, _, h⟩
      subst hu11
      go_wp2_with fail
      go_ret
      have hbw : Below w.heap.size w wr := HL.out.2.1.trans (HR.out.2.mono HL.out.2.1.size)
      have hrow := HR.out.1
      rw [List.take_length] at hrow
      have hM := HL.out.1
      have hbA : Below wL.heap.size wL (wr.alloc (.cells #[.string ⟨#[]⟩, .string ⟨#[]⟩, .pointer (some ⟨w.heap.size + 1, 0, none⟩), .int .u64 (wd : Int), .slice ao2 ts.length c2] 49)) := HR.out.2.alloc HR.out.2.size _
      refine ⟨wr.heap.size, w.heap.size + 1, .slice ao2 ts.length c2, rfl, ⟨by simp, by simp, by simp, fun j hj => ?_, cell_keep hbA hM.2.2.1, ?_⟩, hbw.alloc hbw.size _⟩
      · have h := hM.2.1 j hj
        rw [if_pos hj] at h
        exact cell_keep hbA h
      · rcases hrow.2 with ⟨h, h0⟩ | ⟨g, cp, cur, h, hg1, hg2, hg3, hg4, hg5, hg6⟩
        · have : ts = [] := by simpa using h0
          subst this
          exact ⟨ao2, c2, rfl, by simp, by simp⟩
        · cases h
          refine ⟨some ⟨g, 0, none⟩, c2, rfl, hg3, fun j t ht => ⟨g, rfl, ?_⟩⟩
          have hcell : ∀ (i : Nat) (v : Value), (tcs ts)[i]? = some v → (wr.alloc (.cells #[.string ⟨#[]⟩, .string ⟨#[]⟩, .pointer (some ⟨w.heap.size + 1, 0, none⟩), .int .u64 (wd : Int), .slice (some ⟨g, 0, none⟩) ts.length c2] 49)).cell? ⟨g, i, none⟩ = some v := by
            intro i v hv
            have h1 : cur.toList[i]? = some v := by
              have h2 : (cur.toList.take (ts.length * 2))[i]? = some v := by rw [hg6]; exact hv
              rw [List.getElem?_take] at h2
              split at h2
              · exact h2
              · cases h2
            have h3 : cur[i]? = some v := by simpa using h1
            rw [World.cell?_alloc_lt _ _ ⟨g, i, none⟩ (Array.getElem?_eq_some_iff.1 hg2).1]
            simp [World.cell?, hg2, h3]
          obtain ⟨t1, t2⟩ := tcs_get ts j t ht
          exact ⟨hcell _ _ t1, hcell _ _ t2⟩
end Go.Proofs.Qxb6615962aFmt
