import Derived.Test.Qxb6615962aFmtItQ
set_option linter.unusedSimpArgs false
set_option linter.defProp false
namespace Go.Proofs.Qxb6615962aFmt
open Go.RowKit Go.Stop
attribute [-go_sem] loadVar
def lv4 (t : TypeId) (a : Addr) (_h : (t == 42 || t == 23) = false) := loadVar.eq_1 t a
attribute [local go_sem] lv4
/-- the law's own times, as they come in -/
def InT (w : World) (ao : Option Addr) (n c : Nat) (ts : List (Int × Int)) : Prop := ts.length = n ∧ (ao = none → n = 0 ∧ c = 0) ∧ ∀ a, ao = some a → ∀ j v, (tcs ts)[j]? = some v → w.cell? (a.add j) = some v
set_option maxHeartbeats 16000000 in
set_option maxRecDepth 8000 in
theorem law_main (F : Interp) (mo : Nat → Nat) (hmo : ∀ j, mo j < 18446744073709551616) (s : ByteArray) (hs0 : s.size ≤ 9223372036854775807) (wd : Nat) (hwd : wd < 18446744073709551616) (ao : Option Addr) (n c : Nat) (hn0 : n ≤ 9223372036854775807) (ts : List (Int × Int)) (x : Nat) (hx : x < 18446744073709551616) (w : World) (hE : Env F w) (hT : InT w ao n c ts) :
    Calls Tryf.prog 4 #[.agg (mv mo), .string s, .int .u64 (wd : Int), .slice ao n c, .int .u64 (x : Int)] w fun e w' => e = .returned (.bool true) ∧ Below w.heap.size w w' := by
  have HE : Hid (Env F w) := hE
  have HT : Hid (InT w ao n c ts) := hT
  clear hE hT
  obtain ⟨W0, hW0⟩ : ∃ W0, W0 = w.alloc (.cells (mv mo) 23) := ⟨_, rfl⟩
  have b0 : Below w.heap.size w W0 := by rw [hW0]; exact (Below.refl _ _).alloc (Nat.le_refl _) _
  have m0 : ∀ j, j < 12 → W0.cell? ⟨w.heap.size, j, none⟩ = some (.int .u64 (mo j : Int)) := fun j hj => by rw [hW0, World.cell?_alloc_new]; exact mv_get mo j hj
  have z0 : W0.heap.size = w.heap.size + 1 := by rw [hW0]; simp
  have l0 := ld23 w.heap.size mo W0 m0
  have hzb := zzBytes_any mo s (.int .u64 (wd : Int)) (.int .u64 (x : Int)) ao n c W0
  have H0 : Hid (Below w.heap.size w W0 ∧ (∀ j, j < 12 → W0.cell? ⟨w.heap.size, j, none⟩ = some (.int .u64 (mo j : Int))) ∧ W0.heap.size = w.heap.size + 1) := ⟨b0, m0, z0⟩
  clear b0 m0 z0
  rw [hW0] at l0
  go_enter Tryf.func4, Tryf.ntmps4
  go_wp2_with fail
  rw [← hW0]
  clear hW0
  refine hzb.mono ?_
  rintro e W1 ⟨⟨r, rfl⟩, hb1⟩
  have H1 : Hid (Below w.heap.size w W1 ∧ Below W0.heap.size W0 W1) := ⟨H0.out.1.trans (hb1.mono H0.out.1.size), hb1⟩
  clear hzb hb1 l0
  cases r
  · go_wp2_with fail
    go_ret
    exact ⟨rfl, H1.out.1⟩
  · by_cases hs : s.size ≤ 524288
    · have d1 : decide ((524288 : Int) < (s.size : Int)) = false := by simp; omega
      by_cases hn : n ≤ 32768
      · have d2 : decide ((32768 : Int) < (n : Int)) = false := by simp; omega
        cases ao with
        | none =>
          have hnn : ∀ W, (binOp .neq 24 (.slice none n c) (.slice none 0 0)).run Tryf.prog W = .ok (.bool false) W := fun W => run_neq_slice_nil_any W 24 30 none n c 0 0 Tryf.underlying24
          have HW : Hid (Below w.heap.size w W1 ∧ Times W1 (.slice none n c) ts ∧ ts.length = n) := ⟨H1.out.1, ⟨none, c, by rw [HT.out.1], by rw [HT.out.1, (HT.out.2.1 rfl).1]; omega, fun j t ht => by
            have : ts = [] := List.length_eq_zero_iff.1 (by rw [HT.out.1]; exact (HT.out.2.1 rfl).1)
            rw [this] at ht; cases ht⟩, HT.out.1⟩
          have l1 := ld23 w.heap.size mo W1 fun j hj => cell_keep H1.out.2 (H0.out.2.1 j hj)
          clear H1 HT H0
          generalize (none : Option Addr) = ao at *
          go_wp2_with fail
          obtain ⟨Wc, hWc⟩ : ∃ Wc, Wc = W1 := ⟨_, rfl⟩
          subst hWc

          have hnc := newClause_any mo s wd (.slice ao n _) ts (by rw [HW.out.2.2]; omega) Wc HW.out.2.1
          refine hnc.mono ?_
          rintro e W2 ⟨cc, D, tv', rfl, hC, hb2⟩
          have H2 : Hid (Below w.heap.size w W2 ∧ Cl W2 cc D mo s wd tv' ts ∧ Times W2 (.slice ao n _) ts ∧ Env F W2 ∧ ts.length = n) := ⟨HW.out.1.trans (hb2.mono HW.out.1.size), hC, HW.out.2.1.below hb2, HE.out.below (HW.out.1.trans (hb2.mono HW.out.1.size)), HW.out.2.2⟩
          clear hnc HW hC hb2 l1
          go_wp2_with fail
          go_loopw [13, 14, 15] (fun want alone i wr => ∃ k : Nat, i = .int .i64 (k : Int) ∧ k ≤ 5 ∧ want = .string ⟨(wants mo s wd ts x k).toArray⟩ ∧ (k = 5 → alone = .string ⟨(itemL mo s wd ts 16).toArray⟩) ∧ Hid (Below W2.heap.size W2 wr)) (fun _ _ i _ => 5 - (intOf i).toNat)
          case atStart => exact ⟨0, rfl, by omega, rfl, by omega, Below.refl _ _⟩
          case round =>
          obtain ⟨k, rfl, hk, rfl, hal, HR⟩ := hrel
          by_cases hlt : k < 5
          · obtain ⟨r, hr1, hr2, hr3⟩ := item_aln mo hmo s (by omega) wd ts (by rw [H2.out.2.2.2.2]; omega) k hlt
            have hz := zzItem_any F cc D mo hmo s (by omega) wd hwd tv' ts (by rw [H2.out.2.2.2.2]; omega) (2 ^ k) (Nat.lt_of_lt_of_le (Nat.pow_lt_pow_right (by omega) hlt) (by omega)) wr (H2.out.2.2.2.1.below HR.out) (H2.out.2.1.below HR.out)
            rw [hr1] at hz
            have hki : (k : Int) < 5 := by omega
            have hw1 : IntKind.u64.wrap (k : Int) = (k : Int) := by rw [IntKind.wrap_u64]; omega
            have ez : ((2 ^ k : Nat) : Int) = (2 : Int) ^ k := by simp
            have hw2 : IntKind.u64.wrap ((2 : Int) ^ k) = (2 : Int) ^ k := by
              have h5 : 2 ^ k < 2 ^ 5 := Nat.pow_lt_pow_right (by omega) hlt
              rw [← ez, IntKind.wrap_u64]
              generalize 2 ^ k = m at h5 ⊢
              omega
            rw [ez] at hz
            have HA : Hid ((⟨(itemL mo s wd ts (2 ^ k)).toArray⟩ : ByteArray) = aln r) := hr1
            clear hr1 ez
            go_wp2_with fail
            refine hz.mono ?_
            rintro e W3 ⟨rfl, hb3⟩
            have H3 : Hid (Below W2.heap.size W2 W3) := HR.out.trans (hb3.mono HR.out.size)
            clear hz hb3 HR
            have rsz := aln_size r
            have rhd := aln_head r
            have rmd := aln_mid r
            have rls := aln_last r (by rw [rsz]; omega)
            have hbit := bit_shr x k hx
            have hwl : ¬ 9223372036854775807 < (wants mo s wd ts x k).length + (r.length + 1) := by
              have := wants_len mo hmo s (by omega) wd ts (by rw [H2.out.2.2.2.2]; omega) x k hk
              omega
            have hwk : IntKind.i64.wrap ((k : Int) + 1) = (k : Int) + 1 := by rw [IntKind.wrap_i64]; omega
            have hk4 : ((k : Int) == 4) = decide (k = 4) := by rw [Bool.eq_iff_iff]; simp; omega
            generalize aln r = al at *
            have hd6 : ¬ ((r.length : Int) + 6 < 6) := by omega
            generalize hb : x.testBit k = tb at hbit
            generalize hkk : decide (k = 4) = t4 at hk4
            have HB : Hid (x.testBit k = tb ∧ decide (k = 4) = t4 ∧ sgk mo s wd ts k = 32 :: r) := ⟨hb, hkk, hr2⟩
            clear hb hkk hr2
            cases tb
            all_goals cases t4
            all_goals go_wp2_with fail
            all_goals refine ⟨⟨k + 1, by simp, by omega, ?_, ?_, H3⟩, by simp [intOf]; omega⟩
            · simp [wants, HB.out.1]
            · exact fun h => absurd HB.out.2.1 (by simp; omega)
            · simp [wants, HB.out.1]
            · intro _
              have h4 : k = 4 := by simpa using HB.out.2.1
              rw [← HA.out, h4]
            · simp only [wants, HB.out.1, HB.out.2.2]
              rw [Value.string.injEq]
              apply ByteArray.ext
              apply Array.ext'
              simp
            · exact fun h => absurd HB.out.2.1 (by simp; omega)
            · simp only [wants, HB.out.1, HB.out.2.2]
              rw [Value.string.injEq]
              apply ByteArray.ext
              apply Array.ext'
              simp
            · intro _
              have h4 : k = 4 := by simpa using HB.out.2.1
              rw [← HA.out, h4]
          · obtain rfl : k = 5 := by omega
            have hal' := hal rfl
            subst hal'
            have hz := zzItem_any F cc D mo hmo s (by omega) wd hwd tv' ts (by rw [H2.out.2.2.2.2]; omega) x hx wr (H2.out.2.2.2.1.below HR.out) (H2.out.2.1.below HR.out)
            have hcat : (⟨(wants mo s wd ts x 5).toArray⟩ : ByteArray) ++ ⟨#[59]⟩ = ⟨(itemL mo s wd ts x).toArray⟩ := by
              rw [← wants_item]
              apply ByteArray.ext
              apply Array.ext'
              simp
            have hwl : ¬ 9223372036854775807 < (wants mo s wd ts x 5).length + 1 := by
              have := wants_len mo hmo s (by omega) wd ts (by rw [H2.out.2.2.2.2]; omega) x 5 hk
              omega
            clear hal
            go_wp2_with fail
            refine hz.mono ?_
            rintro e W3 ⟨rfl, hb3⟩
            have H3 : Hid (Below W2.heap.size W2 W3) := HR.out.trans (hb3.mono HR.out.size)
            clear hz hb3 HR
            have hcr := clockRanges_any (.slice ao n _) ts (by rw [H2.out.2.2.2.2]; omega) W3 (H2.out.2.2.1.below H3.out)
            go_wp2_with fail
            refine hcr.mono ?_
            rintro e W4 ⟨⟨r, rfl⟩, hW4⟩
            subst hW4
            clear hcr
            cases r
            · go_wp2_with fail
              go_ret
              exact ⟨rfl, H2.out.1.trans (H3.out.mono H2.out.1.size)⟩
            · obtain ⟨i0, hi, hz0, hz1, hz2⟩ := info_parts info5
              have kc : (convert 36 36 (.slice (some ⟨W4.heap.size, 0, none⟩) 7 7)).run Tryf.prog (W4.alloc (.cells #[.int .u8 116, .int .u8 105, .int .u8 109, .int .u8 101, .int .u8 32, .int .u8 123, .int .u8 32] 5)) = .ok (.slice (some ⟨W4.heap.size, 0, none⟩) 7 7) (W4.alloc (.cells #[.int .u8 116, .int .u8 105, .int .u8 109, .int .u8 101, .int .u8 32, .int .u8 123, .int .u8 32] 5 (7, 8))) := Lib.run_convert_bytes_const (P := Tryf.prog) W4 36 5 #[.int .u8 116, .int .u8 105, .int .u8 109, .int .u8 101, .int .u8 32, .int .u8 123, .int .u8 32] 7 7 Tryf.underlying36 Tryf.underlying5
              obtain ⟨W5, hW5⟩ : ∃ W5, W5 = W4.alloc (.cells #[.int .u8 116, .int .u8 105, .int .u8 109, .int .u8 101, .int .u8 32, .int .u8 123, .int .u8 32] 5 (7, 8)) := ⟨_, rfl⟩
              rw [← hW5] at kc
              have H5 : Hid (Below W4.heap.size W4 W5 ∧ SegV W4.heap.size W5 (.slice (some ⟨W4.heap.size, 0, none⟩) 7 7) (sj ts 0)) := by
                rw [hW5]
                refine ⟨(Below.refl _ _).alloc (Nat.le_refl _) _, .inr ⟨W4.heap.size, rfl, fun j u hj => ?_⟩⟩
                rw [Lib.cell_of_heap (heap_alloc_last W4 _)]
                simpa [sj, jn, Lib.join_nil, Lib.byteCells] using hj
              have HTc : Hid (∀ (j : Nat) (t : Int × Int), ts[j]? = some t → ∃ g, ao = some ⟨g, 0, none⟩ ∧ W4.cell? ⟨g, j * 2, none⟩ = some (.int .i64 t.1) ∧ W4.cell? ⟨g, j * 2 + 1, none⟩ = some (.int .i64 t.2)) := by
                obtain ⟨ao', cap', he, _, h3⟩ := H2.out.2.2.1.below H3.out
                have he' : ao = ao' := by injection he
                rw [he']
                exact h3
              clear hW5
              go_wp2_with fail
              go_loopw [18, 19] (fun v i wr => ∃ k : Nat, i = .int .i64 (k : Int) ∧ k ≤ n ∧ Hid (Below W4.heap.size W4 wr ∧ SegV W4.heap.size wr v (sj ts k))) (fun _ i _ => n - (intOf i).toNat)
              case atStart => exact ⟨0, rfl, by omega, H5⟩
              case round =>
              clear kc
              obtain ⟨k, rfl, hk2, HS⟩ := hrel
              by_cases hlt2 : k < n
              · have hki : (k : Int) < (n : Int) := by omega
                obtain ⟨t, htk⟩ : ∃ t, ts[k]'(by rw [H2.out.2.2.2.2]; exact hlt2) = t := ⟨_, rfl⟩
                obtain ⟨g, rfl, hg1, hg2⟩ := HTc.out k t (by rw [← htk]; exact List.getElem?_eq_getElem _)
                have hwk : IntKind.i64.wrap ((k : Int) + 1) = (k : Int) + 1 := by rw [IntKind.wrap_i64]; omega
                by_cases hk0 : k = 0
                · have hd0 : decide (0 < k) = false := by simp; omega
                  obtain ⟨l1, hl⟩ : ∃ l1, l1 = sj ts k ++ (if k = 0 then [] else [44, 32]) := ⟨_, rfl⟩
                  obtain ⟨w1, hw1⟩ : ∃ w1, w1 = wr := ⟨_, rfl⟩
                  subst hw1
                  obtain ⟨v1, hv1⟩ : ∃ v1, v1 = u18 := ⟨_, rfl⟩
                  subst hv1
                  have HS1 : Hid (l1 = sj ts k ++ (if k = 0 then [] else [44, 32]) ∧ Below W4.heap.size W4 w1 ∧ SegV W4.heap.size w1 v1 l1) := ⟨hl, HS.out.1, by rw [hl, if_pos hk0, List.append_nil]; exact HS.out.2⟩
                  clear HS hl hk0
                  have hl1 : l1.length ≤ 500000 := by
                    have := sj_len ts k (by rw [H2.out.2.2.2.2]; omega)
                    rw [HS1.out.1]
                    rw [List.length_append]
                    split <;> simp <;> omega
                  have hsz1 : W4.heap.size ≤ w1.heap.size := HS1.out.2.1.size
                  have c1 := appendClock_seg W4.heap.size v1 l1 t.1 w1 HS1.out.2.2 (by omega) hsz1
                  have x1 := cell_keep HS1.out.2.1 hg1
                  go_wp2_with fail
                  refine c1.mono ?_
                  rintro e w2 ⟨v2, rfl, ho2, hb2⟩
                  have HS2 : Hid (w2.ownsRow W4.heap.size 5 1 v2 (l1 ++ cb t.1).length (Lib.byteCells (l1 ++ cb t.1)) ∧ Below W4.heap.size W4 w2) := ⟨ho2, HS1.out.2.1.trans hb2⟩
                  clear c1 x1 ho2 hb2
                  go_wp2_with (at_builtin; refine wpList_append_own _ rfl _ _ 36 rfl W4.heap.size 5 i0 (.int .u8 0) 1 1 Tryf.underlying36 hi hz0 hz1 hz2 rfl (by decide) _ _ _ rfl (HS2.out.1.alloc _) ⟨w2.heap.size, 0, none⟩ 1 1 [.int .u8 45] rfl rfl ?c1 ?c2 ?c3 ?c4 ?c5 ?_)
                  case c1 =>
                    intro j u hj
                    match j, hj with
                    | 0, hj =>
                      have : Value.int .u8 45 = u := by simpa using hj
                      rw [← this]
                      simp [Addr.add]
                  case c2 => intro u hu; simp at hu; rcases hu with rfl; rfl
                  case c3 => rw [List.length_append, cb_len]; unfold maxLen; omega
                  case c4 => rw [List.length_append, cb_len]; omega
                  case c5 => have := HS2.out.2.size; simp; omega
                  intro v3 w3 ho3 hg3 _
                  have HS3 : Hid (w3.ownsRow W4.heap.size 5 1 v3 (l1 ++ cb t.1 ++ [45]).length (Lib.byteCells (l1 ++ cb t.1 ++ [45])) ∧ Below W4.heap.size W4 w3) := by
                    refine ⟨?_, ?_⟩
                    · rw [List.length_append, List.length_append, ← bytes_app]; exact ho3
                    · exact (HS2.out.2.alloc HS2.out.2.size _).grown hg3 (by have := HS2.out.2.size; simp; omega) (fun k hk => (HS2.out.1.lt k hk).1)
                  clear ho3 hg3
                  have hsz3 : W4.heap.size ≤ w3.heap.size := HS3.out.2.size
                  have c2 := appendClock_seg W4.heap.size v3 (l1 ++ cb t.1 ++ [45]) t.2 w3 (.inl HS3.out.1) (by rw [List.length_append, List.length_append, cb_len]; simp; omega) hsz3
                  have x2 := cell_keep HS3.out.2 hg2
                  go_wp2_with fail
                  refine c2.mono ?_
                  rintro e w4 ⟨v4, rfl, ho4, hb4⟩
                  have HS4 : Hid (Below W4.heap.size W4 w4 ∧ SegV W4.heap.size w4 v4 (sj ts (k + 1))) := by
                    refine ⟨HS3.out.2.trans hb4, .inl ?_⟩
                    rw [sj_succ ts k (by rw [H2.out.2.2.2.2]; exact hlt2), htk, ← HS1.out.1]
                    exact ho4
                  clear c2 x2 ho4 hb4
                  go_wp2_with fail
                  exact ⟨⟨k + 1, by simp, by omega, HS4⟩, by simp [intOf]; omega⟩
                · have hd0 : decide (0 < (k : Int)) = true := by simp; omega
                  go_wp2_with (at_builtin; refine append_seg_string _ rfl _ _ rfl W4.heap.size _ (sj ts k) [44, 32] rfl HS.out.2 rfl (by decide) ?c1 ?c2 ?_)
                  case c1 =>
                    have := sj_len ts k (by rw [H2.out.2.2.2.2]; omega)
                    simp
                    omega
                  case c2 => exact HS.out.1.size
                  intro v1 w1 ho1 hb1
                  obtain ⟨l1, hl⟩ : ∃ l1, l1 = sj ts k ++ (if k = 0 then [] else [44, 32]) := ⟨_, rfl⟩
                  have HS1 : Hid (l1 = sj ts k ++ (if k = 0 then [] else [44, 32]) ∧ Below W4.heap.size W4 w1 ∧ SegV W4.heap.size w1 v1 l1) := ⟨hl, HS.out.1.trans hb1, by rw [hl, if_neg hk0]; exact .inl (by rw [List.length_append]; exact ho1)⟩
                  clear HS hl ho1 hb1 hk0
                  have hl1 : l1.length ≤ 500000 := by
                    have := sj_len ts k (by rw [H2.out.2.2.2.2]; omega)
                    rw [HS1.out.1]
                    rw [List.length_append]
                    split <;> simp <;> omega
                  have hsz1 : W4.heap.size ≤ w1.heap.size := HS1.out.2.1.size
                  have c1 := appendClock_seg W4.heap.size v1 l1 t.1 w1 HS1.out.2.2 (by omega) hsz1
                  have x1 := cell_keep HS1.out.2.1 hg1
                  go_wp2_with fail
                  refine c1.mono ?_
                  rintro e w2 ⟨v2, rfl, ho2, hb2⟩
                  have HS2 : Hid (w2.ownsRow W4.heap.size 5 1 v2 (l1 ++ cb t.1).length (Lib.byteCells (l1 ++ cb t.1)) ∧ Below W4.heap.size W4 w2) := ⟨ho2, HS1.out.2.1.trans hb2⟩
                  clear c1 x1 ho2 hb2
                  go_wp2_with (at_builtin; refine wpList_append_own _ rfl _ _ 36 rfl W4.heap.size 5 i0 (.int .u8 0) 1 1 Tryf.underlying36 hi hz0 hz1 hz2 rfl (by decide) _ _ _ rfl (HS2.out.1.alloc _) ⟨w2.heap.size, 0, none⟩ 1 1 [.int .u8 45] rfl rfl ?c1 ?c2 ?c3 ?c4 ?c5 ?_)
                  case c1 =>
                    intro j u hj
                    match j, hj with
                    | 0, hj =>
                      have : Value.int .u8 45 = u := by simpa using hj
                      rw [← this]
                      simp [Addr.add]
                  case c2 => intro u hu; simp at hu; rcases hu with rfl; rfl
                  case c3 => rw [List.length_append, cb_len]; unfold maxLen; omega
                  case c4 => rw [List.length_append, cb_len]; omega
                  case c5 => have := HS2.out.2.size; simp; omega
                  intro v3 w3 ho3 hg3 _
                  have HS3 : Hid (w3.ownsRow W4.heap.size 5 1 v3 (l1 ++ cb t.1 ++ [45]).length (Lib.byteCells (l1 ++ cb t.1 ++ [45])) ∧ Below W4.heap.size W4 w3) := by
                    refine ⟨?_, ?_⟩
                    · rw [List.length_append, List.length_append, ← bytes_app]; exact ho3
                    · exact (HS2.out.2.alloc HS2.out.2.size _).grown hg3 (by have := HS2.out.2.size; simp; omega) (fun k hk => (HS2.out.1.lt k hk).1)
                  clear ho3 hg3
                  have hsz3 : W4.heap.size ≤ w3.heap.size := HS3.out.2.size
                  have c2 := appendClock_seg W4.heap.size v3 (l1 ++ cb t.1 ++ [45]) t.2 w3 (.inl HS3.out.1) (by rw [List.length_append, List.length_append, cb_len]; simp; omega) hsz3
                  have x2 := cell_keep HS3.out.2 hg2
                  go_wp2_with fail
                  refine c2.mono ?_
                  rintro e w4 ⟨v4, rfl, ho4, hb4⟩
                  have HS4 : Hid (Below W4.heap.size W4 w4 ∧ SegV W4.heap.size w4 v4 (sj ts (k + 1))) := by
                    refine ⟨HS3.out.2.trans hb4, .inl ?_⟩
                    rw [sj_succ ts k (by rw [H2.out.2.2.2.2]; exact hlt2), htk, ← HS1.out.1]
                    exact ho4
                  clear c2 x2 ho4 hb4
                  go_wp2_with fail
                  exact ⟨⟨k + 1, by simp, by omega, HS4⟩, by simp [intOf]; omega⟩
              · obtain rfl : k = n := by omega
                go_wp2_with (at_builtin; refine append_seg_string _ rfl _ _ rfl W4.heap.size _ (sj ts k) [32, 125, 59] rfl HS.out.2 rfl (by decide) ?c1 ?c2 ?_)
                case c1 =>
                  have := sj_len ts k (by rw [H2.out.2.2.2.2]; omega)
                  simp
                  omega
                case c2 => exact HS.out.1.size
                intro v1 w1 ho1 hb1
                have hcv := conv_own W4.heap.size v1 (sj ts k ++ [32, 125, 59]) w1 (by rw [List.length_append]; exact ho1) (by simp)
                have hend := sj_end mo s wd ts
                rw [H2.out.2.2.2.2] at hend
                rw [hend] at hcv
                have HB : Hid (Below w.heap.size w w1) := (H2.out.1.trans (H3.out.mono H2.out.1.size)).trans ((HS.out.1.trans hb1).mono ((H2.out.1.trans (H3.out.mono H2.out.1.size)).size))
                clear ho1 hb1 HS hend
                go_wp2_with fail
                go_ret
                exact ⟨rfl, HB.out⟩
        | some a =>
          have hmk := made30 n hn W1
          have hnn : ∀ W, (binOp .neq 24 (.slice (some a) n c) (.slice none 0 0)).run Tryf.prog W = .ok (.bool true) W := fun W => run_neq_slice_nil_any W 24 30 (some a) n c 0 0 Tryf.underlying24
          have htl : (tcs ts).length = n * 2 := by rw [tcs_len, HT.out.1]
          have hcp := run_copy2 (W1.alloc (.cells (madeCells #[.int .i64 0, .int .i64 0] (n * 2)) 30)) 3 W1.heap.size n c a (madeCells #[.int .i64 0, .int .i64 0] (n * 2)) 30 (tcs ts) (heap_alloc_last W1 _) htl (by rw [madeCells]; simp) (fun j v hv => by
            have h1 := HT.out.2.2 a rfl j v hv
            have h2 := H1.out.1.cell (p := a.add j) (World.block_lt_of_cell? w (a.add j) h1)
            rw [World.cell?_alloc_lt _ _ (a.add j) (Nat.lt_of_lt_of_le (World.block_lt_of_cell? w (a.add j) h1) H1.out.1.size), h2, h1]) (tcs_one ts)
          rw [World.setRow_alloc_new] at hcp
          obtain ⟨Wc, hWc⟩ : ∃ Wc, Wc = W1.alloc (.cells (tcs ts).toArray 30) := ⟨_, rfl⟩
          rw [← hWc] at hcp
          have HW : Hid (Below w.heap.size w Wc ∧ Times Wc (.slice (some ⟨W1.heap.size, 0, none⟩) n n) ts ∧ ts.length = n) := ⟨by rw [hWc]; exact H1.out.1.alloc H1.out.1.size _, ⟨some ⟨W1.heap.size, 0, none⟩, n, by rw [HT.out.1], by rw [HT.out.1]; omega, fun j t ht => by
            have hg := tcs_get ts j t ht
            rw [hWc]
            refine ⟨_, rfl, ?_, ?_⟩
            · rw [World.cell?_alloc_new]; simpa using hg.1
            · rw [World.cell?_alloc_new]; simpa using hg.2⟩, HT.out.1⟩
          have l1 := ld23 w.heap.size mo Wc fun j hj => by
            rw [hWc]
            exact cell_keep ((Below.refl _ _).alloc (Nat.le_refl _) _) (cell_keep H1.out.2 (H0.out.2.1 j hj))
          clear H1 HT H0 hWc
          go_wp2_with fail
          generalize (some ⟨W1.heap.size, 0, none⟩ : Option Addr) = ao at *

          have hnc := newClause_any mo s wd (.slice ao n _) ts (by rw [HW.out.2.2]; omega) Wc HW.out.2.1
          refine hnc.mono ?_
          rintro e W2 ⟨cc, D, tv', rfl, hC, hb2⟩
          have H2 : Hid (Below w.heap.size w W2 ∧ Cl W2 cc D mo s wd tv' ts ∧ Times W2 (.slice ao n _) ts ∧ Env F W2 ∧ ts.length = n) := ⟨HW.out.1.trans (hb2.mono HW.out.1.size), hC, HW.out.2.1.below hb2, HE.out.below (HW.out.1.trans (hb2.mono HW.out.1.size)), HW.out.2.2⟩
          clear hnc HW hC hb2 l1
          go_wp2_with fail
          go_loopw [13, 14, 15] (fun want alone i wr => ∃ k : Nat, i = .int .i64 (k : Int) ∧ k ≤ 5 ∧ want = .string ⟨(wants mo s wd ts x k).toArray⟩ ∧ (k = 5 → alone = .string ⟨(itemL mo s wd ts 16).toArray⟩) ∧ Hid (Below W2.heap.size W2 wr)) (fun _ _ i _ => 5 - (intOf i).toNat)
          case atStart => exact ⟨0, rfl, by omega, rfl, by omega, Below.refl _ _⟩
          case round =>
          obtain ⟨k, rfl, hk, rfl, hal, HR⟩ := hrel
          by_cases hlt : k < 5
          · obtain ⟨r, hr1, hr2, hr3⟩ := item_aln mo hmo s (by omega) wd ts (by rw [H2.out.2.2.2.2]; omega) k hlt
            have hz := zzItem_any F cc D mo hmo s (by omega) wd hwd tv' ts (by rw [H2.out.2.2.2.2]; omega) (2 ^ k) (Nat.lt_of_lt_of_le (Nat.pow_lt_pow_right (by omega) hlt) (by omega)) wr (H2.out.2.2.2.1.below HR.out) (H2.out.2.1.below HR.out)
            rw [hr1] at hz
            have hki : (k : Int) < 5 := by omega
            have hw1 : IntKind.u64.wrap (k : Int) = (k : Int) := by rw [IntKind.wrap_u64]; omega
            have ez : ((2 ^ k : Nat) : Int) = (2 : Int) ^ k := by simp
            have hw2 : IntKind.u64.wrap ((2 : Int) ^ k) = (2 : Int) ^ k := by
              have h5 : 2 ^ k < 2 ^ 5 := Nat.pow_lt_pow_right (by omega) hlt
              rw [← ez, IntKind.wrap_u64]
              generalize 2 ^ k = m at h5 ⊢
              omega
            rw [ez] at hz
            have HA : Hid ((⟨(itemL mo s wd ts (2 ^ k)).toArray⟩ : ByteArray) = aln r) := hr1
            clear hr1 ez
            go_wp2_with fail
            refine hz.mono ?_
            rintro e W3 ⟨rfl, hb3⟩
            have H3 : Hid (Below W2.heap.size W2 W3) := HR.out.trans (hb3.mono HR.out.size)
            clear hz hb3 HR
            have rsz := aln_size r
            have rhd := aln_head r
            have rmd := aln_mid r
            have rls := aln_last r (by rw [rsz]; omega)
            have hbit := bit_shr x k hx
            have hwl : ¬ 9223372036854775807 < (wants mo s wd ts x k).length + (r.length + 1) := by
              have := wants_len mo hmo s (by omega) wd ts (by rw [H2.out.2.2.2.2]; omega) x k hk
              omega
            have hwk : IntKind.i64.wrap ((k : Int) + 1) = (k : Int) + 1 := by rw [IntKind.wrap_i64]; omega
            have hk4 : ((k : Int) == 4) = decide (k = 4) := by rw [Bool.eq_iff_iff]; simp; omega
            generalize aln r = al at *
            have hd6 : ¬ ((r.length : Int) + 6 < 6) := by omega
            generalize hb : x.testBit k = tb at hbit
            generalize hkk : decide (k = 4) = t4 at hk4
            have HB : Hid (x.testBit k = tb ∧ decide (k = 4) = t4 ∧ sgk mo s wd ts k = 32 :: r) := ⟨hb, hkk, hr2⟩
            clear hb hkk hr2
            cases tb
            all_goals cases t4
            all_goals go_wp2_with fail
            all_goals refine ⟨⟨k + 1, by simp, by omega, ?_, ?_, H3⟩, by simp [intOf]; omega⟩
            · simp [wants, HB.out.1]
            · exact fun h => absurd HB.out.2.1 (by simp; omega)
            · simp [wants, HB.out.1]
            · intro _
              have h4 : k = 4 := by simpa using HB.out.2.1
              rw [← HA.out, h4]
            · simp only [wants, HB.out.1, HB.out.2.2]
              rw [Value.string.injEq]
              apply ByteArray.ext
              apply Array.ext'
              simp
            · exact fun h => absurd HB.out.2.1 (by simp; omega)
            · simp only [wants, HB.out.1, HB.out.2.2]
              rw [Value.string.injEq]
              apply ByteArray.ext
              apply Array.ext'
              simp
            · intro _
              have h4 : k = 4 := by simpa using HB.out.2.1
              rw [← HA.out, h4]
          · obtain rfl : k = 5 := by omega
            have hal' := hal rfl
            subst hal'
            have hz := zzItem_any F cc D mo hmo s (by omega) wd hwd tv' ts (by rw [H2.out.2.2.2.2]; omega) x hx wr (H2.out.2.2.2.1.below HR.out) (H2.out.2.1.below HR.out)
            have hcat : (⟨(wants mo s wd ts x 5).toArray⟩ : ByteArray) ++ ⟨#[59]⟩ = ⟨(itemL mo s wd ts x).toArray⟩ := by
              rw [← wants_item]
              apply ByteArray.ext
              apply Array.ext'
              simp
            have hwl : ¬ 9223372036854775807 < (wants mo s wd ts x 5).length + 1 := by
              have := wants_len mo hmo s (by omega) wd ts (by rw [H2.out.2.2.2.2]; omega) x 5 hk
              omega
            clear hal
            go_wp2_with fail
            refine hz.mono ?_
            rintro e W3 ⟨rfl, hb3⟩
            have H3 : Hid (Below W2.heap.size W2 W3) := HR.out.trans (hb3.mono HR.out.size)
            clear hz hb3 HR
            have hcr := clockRanges_any (.slice ao n _) ts (by rw [H2.out.2.2.2.2]; omega) W3 (H2.out.2.2.1.below H3.out)
            go_wp2_with fail
            refine hcr.mono ?_
            rintro e W4 ⟨⟨r, rfl⟩, hW4⟩
            subst hW4
            clear hcr
            cases r
            · go_wp2_with fail
              go_ret
              exact ⟨rfl, H2.out.1.trans (H3.out.mono H2.out.1.size)⟩
            · obtain ⟨i0, hi, hz0, hz1, hz2⟩ := info_parts info5
              have kc : (convert 36 36 (.slice (some ⟨W4.heap.size, 0, none⟩) 7 7)).run Tryf.prog (W4.alloc (.cells #[.int .u8 116, .int .u8 105, .int .u8 109, .int .u8 101, .int .u8 32, .int .u8 123, .int .u8 32] 5)) = .ok (.slice (some ⟨W4.heap.size, 0, none⟩) 7 7) (W4.alloc (.cells #[.int .u8 116, .int .u8 105, .int .u8 109, .int .u8 101, .int .u8 32, .int .u8 123, .int .u8 32] 5 (7, 8))) := Lib.run_convert_bytes_const (P := Tryf.prog) W4 36 5 #[.int .u8 116, .int .u8 105, .int .u8 109, .int .u8 101, .int .u8 32, .int .u8 123, .int .u8 32] 7 7 Tryf.underlying36 Tryf.underlying5
              obtain ⟨W5, hW5⟩ : ∃ W5, W5 = W4.alloc (.cells #[.int .u8 116, .int .u8 105, .int .u8 109, .int .u8 101, .int .u8 32, .int .u8 123, .int .u8 32] 5 (7, 8)) := ⟨_, rfl⟩
              rw [← hW5] at kc
              have H5 : Hid (Below W4.heap.size W4 W5 ∧ SegV W4.heap.size W5 (.slice (some ⟨W4.heap.size, 0, none⟩) 7 7) (sj ts 0)) := by
                rw [hW5]
                refine ⟨(Below.refl _ _).alloc (Nat.le_refl _) _, .inr ⟨W4.heap.size, rfl, fun j u hj => ?_⟩⟩
                rw [Lib.cell_of_heap (heap_alloc_last W4 _)]
                simpa [sj, jn, Lib.join_nil, Lib.byteCells] using hj
              have HTc : Hid (∀ (j : Nat) (t : Int × Int), ts[j]? = some t → ∃ g, ao = some ⟨g, 0, none⟩ ∧ W4.cell? ⟨g, j * 2, none⟩ = some (.int .i64 t.1) ∧ W4.cell? ⟨g, j * 2 + 1, none⟩ = some (.int .i64 t.2)) := by
                obtain ⟨ao', cap', he, _, h3⟩ := H2.out.2.2.1.below H3.out
                have he' : ao = ao' := by injection he
                rw [he']
                exact h3
              clear hW5
              go_wp2_with fail
              go_loopw [18, 19] (fun v i wr => ∃ k : Nat, i = .int .i64 (k : Int) ∧ k ≤ n ∧ Hid (Below W4.heap.size W4 wr ∧ SegV W4.heap.size wr v (sj ts k))) (fun _ i _ => n - (intOf i).toNat)
              case atStart => exact ⟨0, rfl, by omega, H5⟩
              case round =>
              clear kc
              obtain ⟨k, rfl, hk2, HS⟩ := hrel
              by_cases hlt2 : k < n
              · have hki : (k : Int) < (n : Int) := by omega
                obtain ⟨t, htk⟩ : ∃ t, ts[k]'(by rw [H2.out.2.2.2.2]; exact hlt2) = t := ⟨_, rfl⟩
                obtain ⟨g, rfl, hg1, hg2⟩ := HTc.out k t (by rw [← htk]; exact List.getElem?_eq_getElem _)
                have hwk : IntKind.i64.wrap ((k : Int) + 1) = (k : Int) + 1 := by rw [IntKind.wrap_i64]; omega
                by_cases hk0 : k = 0
                · have hd0 : decide (0 < k) = false := by simp; omega
                  obtain ⟨l1, hl⟩ : ∃ l1, l1 = sj ts k ++ (if k = 0 then [] else [44, 32]) := ⟨_, rfl⟩
                  obtain ⟨w1, hw1⟩ : ∃ w1, w1 = wr := ⟨_, rfl⟩
                  subst hw1
                  obtain ⟨v1, hv1⟩ : ∃ v1, v1 = u18 := ⟨_, rfl⟩
                  subst hv1
                  have HS1 : Hid (l1 = sj ts k ++ (if k = 0 then [] else [44, 32]) ∧ Below W4.heap.size W4 w1 ∧ SegV W4.heap.size w1 v1 l1) := ⟨hl, HS.out.1, by rw [hl, if_pos hk0, List.append_nil]; exact HS.out.2⟩
                  clear HS hl hk0
                  have hl1 : l1.length ≤ 500000 := by
                    have := sj_len ts k (by rw [H2.out.2.2.2.2]; omega)
                    rw [HS1.out.1]
                    rw [List.length_append]
                    split <;> simp <;> omega
                  have hsz1 : W4.heap.size ≤ w1.heap.size := HS1.out.2.1.size
                  have c1 := appendClock_seg W4.heap.size v1 l1 t.1 w1 HS1.out.2.2 (by omega) hsz1
                  have x1 := cell_keep HS1.out.2.1 hg1
                  go_wp2_with fail
                  refine c1.mono ?_
                  rintro e w2 ⟨v2, rfl, ho2, hb2⟩
                  have HS2 : Hid (w2.ownsRow W4.heap.size 5 1 v2 (l1 ++ cb t.1).length (Lib.byteCells (l1 ++ cb t.1)) ∧ Below W4.heap.size W4 w2) := ⟨ho2, HS1.out.2.1.trans hb2⟩
                  clear c1 x1 ho2 hb2
                  go_wp2_with (at_builtin; refine wpList_append_own _ rfl _ _ 36 rfl W4.heap.size 5 i0 (.int .u8 0) 1 1 Tryf.underlying36 hi hz0 hz1 hz2 rfl (by decide) _ _ _ rfl (HS2.out.1.alloc _) ⟨w2.heap.size, 0, none⟩ 1 1 [.int .u8 45] rfl rfl ?c1 ?c2 ?c3 ?c4 ?c5 ?_)
                  case c1 =>
                    intro j u hj
                    match j, hj with
                    | 0, hj =>
                      have : Value.int .u8 45 = u := by simpa using hj
                      rw [← this]
                      simp [Addr.add]
                  case c2 => intro u hu; simp at hu; rcases hu with rfl; rfl
                  case c3 => rw [List.length_append, cb_len]; unfold maxLen; omega
                  case c4 => rw [List.length_append, cb_len]; omega
                  case c5 => have := HS2.out.2.size; simp; omega
                  intro v3 w3 ho3 hg3 _
                  have HS3 : Hid (w3.ownsRow W4.heap.size 5 1 v3 (l1 ++ cb t.1 ++ [45]).length (Lib.byteCells (l1 ++ cb t.1 ++ [45])) ∧ Below W4.heap.size W4 w3) := by
                    refine ⟨?_, ?_⟩
                    · rw [List.length_append, List.length_append, ← bytes_app]; exact ho3
                    · exact (HS2.out.2.alloc HS2.out.2.size _).grown hg3 (by have := HS2.out.2.size; simp; omega) (fun k hk => (HS2.out.1.lt k hk).1)
                  clear ho3 hg3
                  have hsz3 : W4.heap.size ≤ w3.heap.size := HS3.out.2.size
                  have c2 := appendClock_seg W4.heap.size v3 (l1 ++ cb t.1 ++ [45]) t.2 w3 (.inl HS3.out.1) (by rw [List.length_append, List.length_append, cb_len]; simp; omega) hsz3
                  have x2 := cell_keep HS3.out.2 hg2
                  go_wp2_with fail
                  refine c2.mono ?_
                  rintro e w4 ⟨v4, rfl, ho4, hb4⟩
                  have HS4 : Hid (Below W4.heap.size W4 w4 ∧ SegV W4.heap.size w4 v4 (sj ts (k + 1))) := by
                    refine ⟨HS3.out.2.trans hb4, .inl ?_⟩
                    rw [sj_succ ts k (by rw [H2.out.2.2.2.2]; exact hlt2), htk, ← HS1.out.1]
                    exact ho4
                  clear c2 x2 ho4 hb4
                  go_wp2_with fail
                  exact ⟨⟨k + 1, by simp, by omega, HS4⟩, by simp [intOf]; omega⟩
                · have hd0 : decide (0 < (k : Int)) = true := by simp; omega
                  go_wp2_with (at_builtin; refine append_seg_string _ rfl _ _ rfl W4.heap.size _ (sj ts k) [44, 32] rfl HS.out.2 rfl (by decide) ?c1 ?c2 ?_)
                  case c1 =>
                    have := sj_len ts k (by rw [H2.out.2.2.2.2]; omega)
                    simp
                    omega
                  case c2 => exact HS.out.1.size
                  intro v1 w1 ho1 hb1
                  obtain ⟨l1, hl⟩ : ∃ l1, l1 = sj ts k ++ (if k = 0 then [] else [44, 32]) := ⟨_, rfl⟩
                  have HS1 : Hid (l1 = sj ts k ++ (if k = 0 then [] else [44, 32]) ∧ Below W4.heap.size W4 w1 ∧ SegV W4.heap.size w1 v1 l1) := ⟨hl, HS.out.1.trans hb1, by rw [hl, if_neg hk0]; exact .inl (by rw [List.length_append]; exact ho1)⟩
                  clear HS hl ho1 hb1 hk0
                  have hl1 : l1.length ≤ 500000 := by
                    have := sj_len ts k (by rw [H2.out.2.2.2.2]; omega)
                    rw [HS1.out.1]
                    rw [List.length_append]
                    split <;> simp <;> omega
                  have hsz1 : W4.heap.size ≤ w1.heap.size := HS1.out.2.1.size
                  have c1 := appendClock_seg W4.heap.size v1 l1 t.1 w1 HS1.out.2.2 (by omega) hsz1
                  have x1 := cell_keep HS1.out.2.1 hg1
                  go_wp2_with fail
                  refine c1.mono ?_
                  rintro e w2 ⟨v2, rfl, ho2, hb2⟩
                  have HS2 : Hid (w2.ownsRow W4.heap.size 5 1 v2 (l1 ++ cb t.1).length (Lib.byteCells (l1 ++ cb t.1)) ∧ Below W4.heap.size W4 w2) := ⟨ho2, HS1.out.2.1.trans hb2⟩
                  clear c1 x1 ho2 hb2
                  go_wp2_with (at_builtin; refine wpList_append_own _ rfl _ _ 36 rfl W4.heap.size 5 i0 (.int .u8 0) 1 1 Tryf.underlying36 hi hz0 hz1 hz2 rfl (by decide) _ _ _ rfl (HS2.out.1.alloc _) ⟨w2.heap.size, 0, none⟩ 1 1 [.int .u8 45] rfl rfl ?c1 ?c2 ?c3 ?c4 ?c5 ?_)
                  case c1 =>
                    intro j u hj
                    match j, hj with
                    | 0, hj =>
                      have : Value.int .u8 45 = u := by simpa using hj
                      rw [← this]
                      simp [Addr.add]
                  case c2 => intro u hu; simp at hu; rcases hu with rfl; rfl
                  case c3 => rw [List.length_append, cb_len]; unfold maxLen; omega
                  case c4 => rw [List.length_append, cb_len]; omega
                  case c5 => have := HS2.out.2.size; simp; omega
                  intro v3 w3 ho3 hg3 _
                  have HS3 : Hid (w3.ownsRow W4.heap.size 5 1 v3 (l1 ++ cb t.1 ++ [45]).length (Lib.byteCells (l1 ++ cb t.1 ++ [45])) ∧ Below W4.heap.size W4 w3) := by
                    refine ⟨?_, ?_⟩
                    · rw [List.length_append, List.length_append, ← bytes_app]; exact ho3
                    · exact (HS2.out.2.alloc HS2.out.2.size _).grown hg3 (by have := HS2.out.2.size; simp; omega) (fun k hk => (HS2.out.1.lt k hk).1)
                  clear ho3 hg3
                  have hsz3 : W4.heap.size ≤ w3.heap.size := HS3.out.2.size
                  have c2 := appendClock_seg W4.heap.size v3 (l1 ++ cb t.1 ++ [45]) t.2 w3 (.inl HS3.out.1) (by rw [List.length_append, List.length_append, cb_len]; simp; omega) hsz3
                  have x2 := cell_keep HS3.out.2 hg2
                  go_wp2_with fail
                  refine c2.mono ?_
                  rintro e w4 ⟨v4, rfl, ho4, hb4⟩
                  have HS4 : Hid (Below W4.heap.size W4 w4 ∧ SegV W4.heap.size w4 v4 (sj ts (k + 1))) := by
                    refine ⟨HS3.out.2.trans hb4, .inl ?_⟩
                    rw [sj_succ ts k (by rw [H2.out.2.2.2.2]; exact hlt2), htk, ← HS1.out.1]
                    exact ho4
                  clear c2 x2 ho4 hb4
                  go_wp2_with fail
                  exact ⟨⟨k + 1, by simp, by omega, HS4⟩, by simp [intOf]; omega⟩
              · obtain rfl : k = n := by omega
                go_wp2_with (at_builtin; refine append_seg_string _ rfl _ _ rfl W4.heap.size _ (sj ts k) [32, 125, 59] rfl HS.out.2 rfl (by decide) ?c1 ?c2 ?_)
                case c1 =>
                  have := sj_len ts k (by rw [H2.out.2.2.2.2]; omega)
                  simp
                  omega
                case c2 => exact HS.out.1.size
                intro v1 w1 ho1 hb1
                have hcv := conv_own W4.heap.size v1 (sj ts k ++ [32, 125, 59]) w1 (by rw [List.length_append]; exact ho1) (by simp)
                have hend := sj_end mo s wd ts
                rw [H2.out.2.2.2.2] at hend
                rw [hend] at hcv
                have HB : Hid (Below w.heap.size w w1) := (H2.out.1.trans (H3.out.mono H2.out.1.size)).trans ((HS.out.1.trans hb1).mono ((H2.out.1.trans (H3.out.mono H2.out.1.size)).size))
                clear ho1 hb1 HS hend
                go_wp2_with fail
                go_ret
                exact ⟨rfl, HB.out⟩
      · have d2 : decide ((32768 : Int) < (n : Int)) = true := by simp; omega
        go_wp2_with fail
        go_ret
        exact ⟨rfl, H1.out.1⟩
    · have d1 : decide ((524288 : Int) < (s.size : Int)) = true := by simp; omega
      go_wp2_with fail
      go_ret
      exact ⟨rfl, H1.out.1⟩
end Go.Proofs.Qxb6615962aFmt
