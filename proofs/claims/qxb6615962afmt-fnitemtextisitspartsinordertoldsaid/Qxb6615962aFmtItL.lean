import Derived.Test.Qxb6615962aFmtItL0
set_option linter.unusedSimpArgs false
set_option linter.defProp false
namespace Go.Proofs.Qxb6615962aFmt
open Go.RowKit Go.Stop
attribute [-go_sem] loadVar
def lv42' (t : TypeId) (a : Addr) (_h : (t == 42 || t == 23) = false) := loadVar.eq_1 t a
attribute [local go_sem] lv42'

set_option maxHeartbeats 64000000 in
set_option maxRecDepth 100000 in
theorem itemText_any (F : Interp) (c D : Nat) (mo : Nat → Nat) (hmo : ∀ j, mo j < 18446744073709551616) (s : ByteArray) (hs : s.size ≤ 1000000) (wd : Nat) (hwd : wd < 18446744073709551616) (tv : Value) (ts : List (Int × Int)) (hts : ts.length ≤ 1000000) (x : Nat) (hx : x < 18446744073709551616) (w : World) (hE : Env F w) (hC : Cl w c D mo s wd tv ts) :
    Calls Tryf.prog 14 #[.pointer (some ⟨c, 0, none⟩), .int .u64 (x : Int)] w fun e w' => e = .returned (.string ⟨(itemL mo s wd ts x).toArray⟩) ∧ Below w.heap.size w w' := by
  have HE : Hid (Env F w) := hE
  have HC : Hid (Cl w c D mo s wd tv ts) := hC
  have r2 := hC.c2
  have cmd := monthsAndDays_any D mo w hC.dm
  clear hE hC
  go_enter Tryf.func14, Tryf.ntmps14
  go_wp2_with fail
  refine cmd.mono ?_
  rintro e w' ⟨rfl, hw⟩
  subst w'
  clear cmd r2
  have hI : Lib.IsBuilder 58 5 w.heap.size w.heap.size [] (w.alloc (.cells #[.pointer none, .slice none 0 0] 58)) := .inl ⟨Nat.le_refl _, .slice none 0 0, World.alloc_heap_new w _, World.ownsRow_nil _ _ _ _, by simp [Value.ownBlock]⟩
  have hb0 : Below w.heap.size w (w.alloc (.cells #[.pointer none, .slice none 0 0] 58)) := (Below.refl _ _).alloc (Nat.le_refl _) _
  have cw := writeString_any w.heap.size w.heap.size [] ⟨#[116, 105, 109, 101]⟩ _ hI (by show 0 + 4 ≤ _; omega) (by simp)
  clear hI
  go_wp2_with fail
  refine cw.mono ?_
  rintro e W0 ⟨rfl, hI0, hB0, _⟩
  obtain ⟨l0, hl0⟩ : ∃ l : List UInt8, l = [116, 105, 109, 101] := ⟨_, rfl⟩
  have HS0 : Hid (Lib.IsBuilder 58 5 w.heap.size w.heap.size (Lib.byteCells l0) W0 ∧ Below w.heap.size w W0 ∧ l0.length ≤ 4) := ⟨.inr (by rw [hl0]; exact hI0), hb0.trans hB0, by rw [hl0]; simp⟩
  have HL0 : Hid (l0 = [116, 105, 109, 101]) := hl0
  clear hI0 hB0 hb0 cw hl0
  cases t0 : x.testBit 0
  · have hh0 := has_any x hx 0 (by omega) W0
    rw [t0] at hh0
    go_wp2_with fail
    refine hh0.mono ?_
    rintro e w' ⟨rfl, hw⟩
    subst w'
    clear hh0
    obtain ⟨W1, hW1⟩ : ∃ W, W = W0 := ⟨_, rfl⟩
    obtain ⟨l1, hl1⟩ : ∃ l, l = l0 := ⟨_, rfl⟩
    have HS1 : Hid (Lib.IsBuilder 58 5 w.heap.size w.heap.size (Lib.byteCells l1) W1 ∧ Below w.heap.size w W1 ∧ l1.length ≤ 4000000005) := by
      rw [hW1, hl1]
      exact ⟨HS0.out.1, HS0.out.2.1, by have := HS0.out.2.2; omega⟩
    have HL1 : Hid (l1 = l0 ++ (if x.testBit 0 then sg0 mo else [])) := by
      show l1 = _
      rw [t0, hl1]; simp
    rw [← hW1]
    clear hW1 hl1
    cases t1 : x.testBit 1
    · have hh1 := has_any x hx 1 (by omega) W1
      rw [t1] at hh1
      go_wp2_with fail
      refine hh1.mono ?_
      rintro e w' ⟨rfl, hw⟩
      subst w'
      clear hh1
      obtain ⟨W2, hW2⟩ : ∃ W, W = W1 := ⟨_, rfl⟩
      obtain ⟨l2, hl2⟩ : ∃ l, l = l1 := ⟨_, rfl⟩
      have HS2 : Hid (Lib.IsBuilder 58 5 w.heap.size w.heap.size (Lib.byteCells l2) W2 ∧ Below w.heap.size w W2 ∧ l2.length ≤ 8000000006) := by
        rw [hW2, hl2]
        exact ⟨HS1.out.1, HS1.out.2.1, by have := HS1.out.2.2; omega⟩
      have HL2 : Hid (l2 = l1 ++ (if x.testBit 1 then sg1 mo else [])) := by
        show l2 = _
        rw [t1, hl2]; simp
      rw [← hW2]
      clear hW2 hl2
      cases t2 : x.testBit 2
      · have hh2 := has_any x hx 2 (by omega) W2
        rw [t2] at hh2
        go_wp2_with fail
        refine hh2.mono ?_
        rintro e w' ⟨rfl, hw⟩
        subst w'
        clear hh2
        obtain ⟨W3, hW3⟩ : ∃ W, W = W2 := ⟨_, rfl⟩
        obtain ⟨l3, hl3⟩ : ∃ l, l = l2 := ⟨_, rfl⟩
        have HS3 : Hid (Lib.IsBuilder 58 5 w.heap.size w.heap.size (Lib.byteCells l3) W3 ∧ Below w.heap.size w W3 ∧ l3.length ≤ 12000000007) := by
          rw [hW3, hl3]
          exact ⟨HS2.out.1, HS2.out.2.1, by have := HS2.out.2.2; omega⟩
        have HL3 : Hid (l3 = l2 ++ (if x.testBit 2 then sg2 s else [])) := by
          show l3 = _
          rw [t2, hl3]; simp
        rw [← hW3]
        clear hW3 hl3
        cases t3 : x.testBit 3
        · have hh3 := has_any x hx 3 (by omega) W3
          rw [t3] at hh3
          go_wp2_with fail
          refine hh3.mono ?_
          rintro e w' ⟨rfl, hw⟩
          subst w'
          clear hh3
          obtain ⟨W4, hW4⟩ : ∃ W, W = W3 := ⟨_, rfl⟩
          obtain ⟨l4, hl4⟩ : ∃ l, l = l3 := ⟨_, rfl⟩
          have HS4 : Hid (Lib.IsBuilder 58 5 w.heap.size w.heap.size (Lib.byteCells l4) W4 ∧ Below w.heap.size w W4 ∧ l4.length ≤ 16000000008) := by
            rw [hW4, hl4]
            exact ⟨HS3.out.1, HS3.out.2.1, by have := HS3.out.2.2; omega⟩
          have HL4 : Hid (l4 = l3 ++ (if x.testBit 3 then sg3 wd else [])) := by
            show l4 = _
            rw [t3, hl4]; simp
          rw [← hW4]
          clear hW4 hl4
          cases t4 : x.testBit 4
          · have hh4 := has_any x hx 4 (by omega) W4
            rw [t4] at hh4
            go_wp2_with fail
            refine hh4.mono ?_
            rintro e w' ⟨rfl, hw⟩
            subst w'
            clear hh4
            obtain ⟨W5, hW5⟩ : ∃ W, W = W4 := ⟨_, rfl⟩
            obtain ⟨l5, hl5⟩ : ∃ l, l = l4 := ⟨_, rfl⟩
            have HS5 : Hid (Lib.IsBuilder 58 5 w.heap.size w.heap.size (Lib.byteCells l5) W5 ∧ Below w.heap.size w W5 ∧ l5.length ≤ 20000000009) := by
              rw [hW5, hl5]
              exact ⟨HS4.out.1, HS4.out.2.1, by have := HS4.out.2.2; omega⟩
            have HL5 : Hid (l5 = l4 ++ (if x.testBit 4 then sg4 ts else [])) := by
              show l5 = _
              rw [t4, hl5]; simp
            rw [← hW5]
            clear hW5 hl5
            have h59 := writeByte_any w.heap.size w.heap.size (Lib.byteCells l5) 59 W5 HS5.out.1 (by rw [Lib.byteCells_length]; have := HS5.out.2.2; omega) HS5.out.2.1.size
            have h59' : Calls Tryf.prog 30 #[.pointer (some ⟨w.heap.size, 0, none⟩), .int .u8 59] W5 fun e w' => e = .returned .nilIface ∧ Lib.BuilderAt 58 5 w.heap.size w.heap.size (.pointer (some ⟨w.heap.size, 0, none⟩)) (Lib.byteCells l5 ++ [.int .u8 59]) w' ∧ Below w.heap.size W5 w' ∧ KT w.heap.size W5 w' := h59
            clear h59
            go_wp2_with fail
            refine h59'.mono ?_
            rintro e W6 ⟨rfl, hI6, hB6, _⟩
            have hI6' : Lib.IsBuilder 58 5 w.heap.size w.heap.size (Lib.byteCells (l5 ++ [59])) W6 := .inr (by
              have e : Lib.byteCells (l5 ++ [59]) = Lib.byteCells l5 ++ [.int .u8 59] := by simp [Lib.byteCells]
              rw [e]; exact hI6)
            have hst := Tryf.Builder_String_any w.heap.size w.heap.size (l5 ++ [59]) W6 hI6' (Nat.le_trans HS5.out.2.1.size hB6.size)
            have HB6 : Hid (Below w.heap.size w W6) := HS5.out.2.1.trans hB6
            clear h59' hI6 hI6' hB6
            go_wp2_with fail
            refine hst.mono ?_
            rintro e W7 ⟨rfl, hB7⟩
            go_wp2_with fail
            go_ret
            refine ⟨?_, HB6.out.trans hB7⟩
            have hl : l5 ++ [59] = itemL mo s wd ts x := by
              rw [HL5.out, HL4.out, HL3.out, HL2.out, HL1.out, HL0.out]
              rfl
            rw [hl]
            rfl
          · have hh4 := has_any x hx 4 (by omega) W4
            rw [t4] at hh4
            go_wp2_with fail
            refine hh4.mono ?_
            rintro e w' ⟨rfl, hw⟩
            subst w'
            clear hh4
            have HOK4 : Hid (Ok [] (ts.map ckt)) := ok4 ts hts
            obtain ⟨ao, cap, htv, _, htc⟩ := HC.out.tm
            have r4 := (HC.out.below HS4.out.2.1).c4
            rw [htv] at r4
            have HTC : Hid (∀ (j : Nat) (t : Int × Int), ts[j]? = some t → ∃ g, ao = some ⟨g, 0, none⟩ ∧ w.cell? ⟨g, j * 2, none⟩ = some (.int .i64 t.1) ∧ w.cell? ⟨g, j * 2 + 1, none⟩ = some (.int .i64 t.2)) := htc
            clear htc htv
            go_wp2_with fail
            clear r4
            go_loopw [8, 60] (fun v i wr => ∃ k : Nat, i = .int .i64 (k : Int) ∧ k ≤ ts.length ∧ Hid (wr.ownsRow W4.heap.size 9 1 v k (((ts.take k).map ckt).map Value.string) ∧ Below W4.heap.size W4 wr)) (fun _ i _ => ts.length - (intOf i).toNat)
            case atStart => exact ⟨0, rfl, by omega, World.ownsRow_nil _ _ _ _, Below.refl _ _⟩
            case round =>
            obtain ⟨k, rfl, hk, HR⟩ := hrel
            by_cases hlt : k < ts.length
            · have hlt1 : decide ((k : Int) < (ts.length : Int)) = true := by simp; omega
              obtain ⟨g, rfl, hg1, hg2⟩ := HTC.out k ts[k] (List.getElem?_eq_getElem hlt)
              have hbw : Below w.heap.size w wr := HS4.out.2.1.trans (HR.out.2.mono HS4.out.2.1.size)
              have k1 := cell_keep hbw hg1
              have k2 := cell_keep hbw hg2
              have hki : (k : Int) < (ts.length : Int) := by omega
              have hg0 : g < wr.heap.size := World.block_lt_of_cell? wr ⟨g, k * 2, none⟩ k1
              have hgn : ¬ g = wr.heap.size := by omega
              have htk : ts[k]? = some ts[k] := List.getElem?_eq_getElem hlt
              generalize ts[k] = t at *
              go_wp2_with fail
              obtain ⟨w1, hw1⟩ : ∃ W : World, W = wr.alloc (.cells #[.int .i64 t.1, .int .i64 t.2] 47) := ⟨_, rfl⟩
              have hb47 : w1.heap[wr.heap.size]? = some (.cells #[.int .i64 t.1, .int .i64 t.2] 47) := by rw [hw1]; exact World.alloc_heap_new wr _
              have e0 : w1.cell? ⟨wr.heap.size, 0, none⟩ = some (.int .i64 t.1) := by rw [hw1]; simp
              have e1 : w1.cell? ⟨wr.heap.size, 1, none⟩ = some (.int .i64 t.2) := by rw [hw1]; simp
              have z1 : w1.heap.size = wr.heap.size + 1 := by rw [hw1]; simp
              have x0 : ∀ W, SX W4 wr.heap.size t W → W.cell? ⟨wr.heap.size, 0, none⟩ = some (.int .i64 t.1) := fun W hb => hb.2.1
              have x1 : ∀ W, SX W4 wr.heap.size t W → W.cell? ⟨wr.heap.size, 1, none⟩ = some (.int .i64 t.2) := fun W hb => hb.2.2
              have HR1 : Hid (w1.ownsRow W4.heap.size 9 1 u8 k (((ts.take k).map ckt).map Value.string) ∧ Below W4.heap.size W4 w1 ∧ wr.heap.size ≤ w1.heap.size) := by
                refine ⟨?_, ?_, by omega⟩
                · rw [hw1]; exact HR.out.1.alloc _
                · rw [hw1]; exact HR.out.2.alloc HR.out.2.size _
              have hnr : u8.ownBlock ≠ some wr.heap.size := by
                rcases HR1.out.1.2 with ⟨h, _⟩ | ⟨g', cap', cur, h, _, hg', _⟩
                · rw [h]; simp [Value.ownBlock]
                · intro e
                  rw [h] at e
                  have : g' = wr.heap.size := by simpa [Value.ownBlock] using e
                  rw [this, hb47] at hg'
                  cases hg'
              have HSX : Hid (SX W4 wr.heap.size t w1 ∧ u8.ownBlock ≠ some wr.heap.size) := ⟨⟨HR1.out.2.1, e0, e1⟩, hnr⟩
              rw [← hw1]
              clear hw1 e0 e1 k1 k2 hg0 hgn hg1 hg2 z1 hb47 hnr
              have cbl : ∀ m, (cb m).length = 4 := fun m => rfl
              refine wp_region_held_drew (S := fun w' => SX W4 wr.heap.size t w') (by kernel_rfl) (HSX.out.1.below (Below.refl _ _).drew) (fun hHeld => ?_)
              refine wpAnyH_take (i := 0) (v := ?v0_1) rfl (by kernel_rfl) (by kernel_rfl) (by kernel_rfl) (fun _ _ _ h => h) (Or.inl ⟨by rfl, ?y0_1⟩) (by assumption) ?r0_1
              case y0_1 => intro w hSw; go_simp; try with_reducible rfl
              simp only [List.getElem_toArray, List.getElem_cons_succ, List.getElem_cons_zero, Act.put, List.setIfInBounds_toArray, List.set_cons_zero, List.set_cons_succ]
              refine wpAnyH_take (i := 1) (v := ?v1_2) rfl (by kernel_rfl) (by kernel_rfl) (by kernel_rfl) (fun _ _ _ h => h) (Or.inl ⟨by rfl, ?y1_2⟩) (by assumption) ?r1_2
              case y1_2 => intro w hSw; go_simp; try with_reducible rfl
              simp only [List.getElem_toArray, List.getElem_cons_succ, List.getElem_cons_zero, Act.put, List.setIfInBounds_toArray, List.set_cons_zero, List.set_cons_succ]
              refine wpAnyH_take (i := 2) (v := ?v2_3) rfl (by kernel_rfl) (by kernel_rfl) (by kernel_rfl) (fun _ _ _ h => h) (Or.inl ⟨by rfl, ?y2_3⟩) (by assumption) ?r2_3
              case y2_3 => intro w hSw; go_simp; try with_reducible rfl
              simp only [List.getElem_toArray, List.getElem_cons_succ, List.getElem_cons_zero, Act.put, List.setIfInBounds_toArray, List.set_cons_zero, List.set_cons_succ]
              refine wpAnyH_take (i := 5) (v := ?v5_4) rfl (by kernel_rfl) (by kernel_rfl) (by kernel_rfl) (fun _ _ _ h => h) (Or.inl ⟨by rfl, ?y5_4⟩) (by assumption) ?r5_4
              case y5_4 => intro w hSw; go_simp; try with_reducible rfl
              simp only [List.getElem_toArray, List.getElem_cons_succ, List.getElem_cons_zero, Act.put, List.setIfInBounds_toArray, List.set_cons_zero, List.set_cons_succ]
              refine wpAnyH_take (i := 6) (v := ?v6_5) rfl (by kernel_rfl) (by kernel_rfl) (by kernel_rfl) (fun _ _ _ h => h) (Or.inl ⟨by rfl, ?y6_5⟩) (by assumption) ?r6_5
              case y6_5 => intro w hSw; go_simp; try with_reducible rfl
              simp only [List.getElem_toArray, List.getElem_cons_succ, List.getElem_cons_zero, Act.put, List.setIfInBounds_toArray, List.set_cons_zero, List.set_cons_succ]
              refine wpAnyH_ready (rs := [3]) (by kernel_rfl) (by simp) ?_
              refine AllReadyH.cons rfl (fun K hK => ?_) AllReadyH.nil
              go_simp
              refine (clockText_any t.1 _).mono ?_
              rintro e w2 ⟨rfl, hb2⟩
              have hh2 : Below w1.heap.size w1 w2 := ((Below.refl w1.heap.size w1).drew).trans hb2
              refine hK.out _ _ (HSX.out.1.below hh2) (fun hH3 => ?_)
              clear hK K hb2
              refine wpAnyH_take (i := 4) (v := ?v4_6) rfl (by kernel_rfl) (by kernel_rfl) (by kernel_rfl) (fun _ _ _ h => h) (Or.inl ⟨by rfl, ?y4_6⟩) (by assumption) ?r4_6
              case y4_6 => intro w hSw; go_simp; try with_reducible rfl
              simp only [List.getElem_toArray, List.getElem_cons_succ, List.getElem_cons_zero, Act.put, List.setIfInBounds_toArray, List.set_cons_zero, List.set_cons_succ]
              refine wpAnyH_ready (rs := [7]) (by kernel_rfl) (by simp) ?_
              refine AllReadyH.cons rfl (fun K hK => ?_) AllReadyH.nil
              go_simp
              refine (clockText_any t.2 _).mono ?_
              rintro e w3 ⟨rfl, hb3⟩
              have hh3 : Below w1.heap.size w1 w3 := hh2.trans (hb3.mono hh2.size)
              refine hK.out _ _ (HSX.out.1.below hh3) (fun hH7 => ?_)
              clear hK K hb3
              refine wpAnyH_take (i := 8) (v := ?v8_7) rfl (by kernel_rfl) (by kernel_rfl) (by kernel_rfl) (fun _ _ _ h => h) (Or.inl ⟨by rfl, ?y8_7⟩) (by assumption) ?r8_7
              case y8_7 => intro w hSw; go_simp; try with_reducible rfl
              simp only [List.getElem_toArray, List.getElem_cons_succ, List.getElem_cons_zero, Act.put, List.setIfInBounds_toArray, List.set_cons_zero, List.set_cons_succ]
              refine wpAnyH_ready (rs := [9]) (by kernel_rfl) (by simp) ?_
              refine AllReadyH.cons rfl (fun K hK => ?_) AllReadyH.nil
              go_simp
              obtain ⟨w4, hw4⟩ : ∃ W : World, W = w3.alloc (.cells #[.string (⟨(cb t.1).toArray⟩ ++ ⟨#[45]⟩ ++ ⟨(cb t.2).toArray⟩)] 9) := ⟨_, rfl⟩
              have hh4 : Below w1.heap.size w1 w4 := by rw [hw4]; exact hh3.alloc hh3.size _
              have c4 : w4.cell? ⟨w3.heap.size, 0, none⟩ = some (.string (⟨(cb t.1).toArray⟩ ++ ⟨#[45]⟩ ++ ⟨(cb t.2).toArray⟩)) := by rw [hw4]; simp
              rw [← hw4]
              clear hw4
              refine hK.out _ _ (HSX.out.1.below hh4) (fun hH9 => ?_)
              clear hK K
              refine wpAnyH_ready (rs := [10]) (by kernel_rfl) (by simp) ?_
              refine AllReadyH.cons rfl (fun K hK => ?_) AllReadyH.nil
              refine app65 w4 (by rfl) _ _ (by rfl) W4.heap.size u8 k _ (by rfl) (own_below HR1.out.1 hh4 (Nat.le_refl _)) w3.heap.size 1 (.string (⟨(cb t.1).toArray⟩ ++ ⟨#[45]⟩ ++ ⟨(cb t.2).toArray⟩)) (by rfl) c4 rfl (by omega) (Nat.le_trans HR1.out.2.1.size hh4.size) ?_
              intro g' cap' w5 hown5 hgrow5 hat5 hlt5
              simp only [List.getElem_toArray, List.getElem_cons_succ, List.getElem_cons_zero, Act.put, List.setIfInBounds_toArray, List.set_cons_zero, List.set_cons_succ]
              have hS5 : SX W4 wr.heap.size t w5 := (HSX.out.1.below hh4).grown (own_below HR1.out.1 hh4 (Nat.le_refl _)) hgrow5 HSX.out.2
              refine hK.out _ _ hS5 (fun hH10 => ?_)
              clear hK K
              refine wpAnyH_take (i := 11) (v := ?v11_8) rfl (by kernel_rfl) (by kernel_rfl) (by kernel_rfl) (fun _ _ _ h => h) (Or.inl ⟨by rfl, ?y11_8⟩) (by assumption) ?r11_8
              case y11_8 => intro w hSw; go_simp; try with_reducible rfl
              simp only [List.getElem_toArray, List.getElem_cons_succ, List.getElem_cons_zero, Act.put, List.setIfInBounds_toArray, List.set_cons_zero, List.set_cons_succ]
              refine wpAnyH_done (by kernel_rfl) ?_ _
              have HN5 : Hid (w5.ownsRow W4.heap.size 9 1 (.slice (some ⟨g', 0, none⟩) (k + 1) cap') (k + 1) (((ts.take (k + 1)).map ckt).map Value.string) ∧ Below W4.heap.size W4 w5) := by
                refine ⟨?_, hS5.1⟩
                rw [List.take_add_one, htk]
                simp only [Option.toList_some, List.map_append, List.map_cons, List.map_nil]
                exact hown5
              clear hown5 hS5 hgrow5 hat5 hlt5 c4 hh4 hh3 hh2 hH10 hH9 hH7 hH3 hHeld x0 x1
              have hwk : IntKind.i64.wrap ((k : Int) + 1) = (k : Int) + 1 := by rw [IntKind.wrap_i64]; omega
              go_wp2_with fail
              go_roundw
              case rel => exact ⟨k + 1, by simp, by omega, HN5⟩
              case measure => simp [intOf]; omega
            · obtain rfl : k = ts.length := by omega
              have hrow := HR.out.1
              rw [List.take_length, ← List.length_map (f := ckt)] at hrow
              have hbl := HR.out.2
              have hi4 := isBuilder_below HS4.out.1 hbl
              have cw4 := writeSet_none w.heap.size w.heap.size W4.heap.size l4 u8 (ts.map ckt) wr hi4 hrow (by have := hbl.size; have := HS4.out.2.1.size; omega) (by have := HS4.out.2.2; omega) (by have := (HOK4.out).j; omega) (by have := (HOK4.out).n; omega)
              have HV4 : Hid (Below w.heap.size w wr) := HS4.out.2.1.trans (hbl.mono HS4.out.2.1.size)
              clear hrow hbl hi4
              go_wp2_with fail
              refine cw4.mono ?_
              rintro e W5 ⟨rfl, hI5, hB5⟩
              obtain ⟨l5, hl5⟩ : ∃ l, l = l4 ++ sg4 ts := ⟨_, rfl⟩
              have HS5 : Hid (Lib.IsBuilder 58 5 w.heap.size w.heap.size (Lib.byteCells l5) W5 ∧ Below w.heap.size w W5 ∧ l5.length ≤ 20000000009) := by
                refine ⟨?_, HV4.out.trans hB5, ?_⟩
                · rw [hl5]; exact hI5
                · rw [hl5, List.length_append]
                  have h1 := HS4.out.2.2
                  have h2 := (HOK4.out).s
                  have h3 : (sg4 ts).length ≤ 4000000001 := h2
                  omega
              have HL5 : Hid (l5 = l4 ++ (if x.testBit 4 then sg4 ts else [])) := by
                show l5 = _
                rw [t4, if_pos rfl]; exact hl5
              clear hI5 hB5 hl5 cw4
              have h59 := writeByte_any w.heap.size w.heap.size (Lib.byteCells l5) 59 W5 HS5.out.1 (by rw [Lib.byteCells_length]; have := HS5.out.2.2; omega) HS5.out.2.1.size
              have h59' : Calls Tryf.prog 30 #[.pointer (some ⟨w.heap.size, 0, none⟩), .int .u8 59] W5 fun e w' => e = .returned .nilIface ∧ Lib.BuilderAt 58 5 w.heap.size w.heap.size (.pointer (some ⟨w.heap.size, 0, none⟩)) (Lib.byteCells l5 ++ [.int .u8 59]) w' ∧ Below w.heap.size W5 w' ∧ KT w.heap.size W5 w' := h59
              clear h59
              go_wp2_with fail
              refine h59'.mono ?_
              rintro e W6 ⟨rfl, hI6, hB6, _⟩
              have hI6' : Lib.IsBuilder 58 5 w.heap.size w.heap.size (Lib.byteCells (l5 ++ [59])) W6 := .inr (by
                have e : Lib.byteCells (l5 ++ [59]) = Lib.byteCells l5 ++ [.int .u8 59] := by simp [Lib.byteCells]
                rw [e]; exact hI6)
              have hst := Tryf.Builder_String_any w.heap.size w.heap.size (l5 ++ [59]) W6 hI6' (Nat.le_trans HS5.out.2.1.size hB6.size)
              have HB6 : Hid (Below w.heap.size w W6) := HS5.out.2.1.trans hB6
              clear h59' hI6 hI6' hB6
              go_wp2_with fail
              refine hst.mono ?_
              rintro e W7 ⟨rfl, hB7⟩
              go_wp2_with fail
              go_ret
              refine ⟨?_, HB6.out.trans hB7⟩
              have hl : l5 ++ [59] = itemL mo s wd ts x := by
                rw [HL5.out, HL4.out, HL3.out, HL2.out, HL1.out, HL0.out]
                rfl
              rw [hl]
              rfl
        · have hh3 := has_any x hx 3 (by omega) W3
          rw [t3] at hh3
          go_wp2_with fail
          refine hh3.mono ?_
          rintro e w' ⟨rfl, hw⟩
          subst w'
          clear hh3
          have HOK3 : Hid (Ok [] ((runsOf wd).map (txt wkN))) := ok3 wd
          have q3 := HC.out.below HS3.out.2.1
          have r3 := q3.c3
          clear q3
          have ct3 := texts_day (F := F) wd hwd W3 (HE.out.below HS3.out.2.1)
          go_wp2_with fail
          refine ct3.mono ?_
          rintro e V3 ⟨v3, rfl, hr3, hbv3⟩
          clear ct3
          clear r3
          rw [← List.length_map (f := txt wkN)] at hr3
          have hi3 := isBuilder_below HS3.out.1 hbv3
          have cw3 := writeSet_none w.heap.size w.heap.size W3.heap.size l3 v3 ((runsOf wd).map (txt wkN)) V3 hi3 hr3 (by have := hbv3.size; have := HS3.out.2.1.size; omega) (by have := HS3.out.2.2; omega) (by have := (HOK3.out).j; omega) (by have := (HOK3.out).n; omega)
          have hbB3 : Below w.heap.size w V3 := HS3.out.2.1.trans (hbv3.mono HS3.out.2.1.size)
          have HV3 : Hid (Below w.heap.size w V3) := hbB3
          clear hbB3 hr3 hi3 hbv3
          go_wp2_with fail
          refine cw3.mono ?_
          rintro e W4 ⟨rfl, hI4, hB4⟩
          obtain ⟨l4, hl4⟩ : ∃ l, l = l3 ++ sg3 wd := ⟨_, rfl⟩
          have HS4 : Hid (Lib.IsBuilder 58 5 w.heap.size w.heap.size (Lib.byteCells l4) W4 ∧ Below w.heap.size w W4 ∧ l4.length ≤ 16000000008) := by
            refine ⟨?_, HV3.out.trans hB4, ?_⟩
            · rw [hl4]; exact hI4
            · rw [hl4, List.length_append]
              have h1 := HS3.out.2.2
              have h2 := (HOK3.out).s
              have h3 : (sg3 wd).length ≤ 4000000001 := h2
              omega
          have HL4 : Hid (l4 = l3 ++ (if x.testBit 3 then sg3 wd else [])) := by
            show l4 = _
            rw [t3, if_pos rfl]; exact hl4
          clear hI4 hB4 hl4 cw3
          cases t4 : x.testBit 4
          · have hh4 := has_any x hx 4 (by omega) W4
            rw [t4] at hh4
            go_wp2_with fail
            refine hh4.mono ?_
            rintro e w' ⟨rfl, hw⟩
            subst w'
            clear hh4
            obtain ⟨W5, hW5⟩ : ∃ W, W = W4 := ⟨_, rfl⟩
            obtain ⟨l5, hl5⟩ : ∃ l, l = l4 := ⟨_, rfl⟩
            have HS5 : Hid (Lib.IsBuilder 58 5 w.heap.size w.heap.size (Lib.byteCells l5) W5 ∧ Below w.heap.size w W5 ∧ l5.length ≤ 20000000009) := by
              rw [hW5, hl5]
              exact ⟨HS4.out.1, HS4.out.2.1, by have := HS4.out.2.2; omega⟩
            have HL5 : Hid (l5 = l4 ++ (if x.testBit 4 then sg4 ts else [])) := by
              show l5 = _
              rw [t4, hl5]; simp
            rw [← hW5]
            clear hW5 hl5
            have h59 := writeByte_any w.heap.size w.heap.size (Lib.byteCells l5) 59 W5 HS5.out.1 (by rw [Lib.byteCells_length]; have := HS5.out.2.2; omega) HS5.out.2.1.size
            have h59' : Calls Tryf.prog 30 #[.pointer (some ⟨w.heap.size, 0, none⟩), .int .u8 59] W5 fun e w' => e = .returned .nilIface ∧ Lib.BuilderAt 58 5 w.heap.size w.heap.size (.pointer (some ⟨w.heap.size, 0, none⟩)) (Lib.byteCells l5 ++ [.int .u8 59]) w' ∧ Below w.heap.size W5 w' ∧ KT w.heap.size W5 w' := h59
            clear h59
            go_wp2_with fail
            refine h59'.mono ?_
            rintro e W6 ⟨rfl, hI6, hB6, _⟩
            have hI6' : Lib.IsBuilder 58 5 w.heap.size w.heap.size (Lib.byteCells (l5 ++ [59])) W6 := .inr (by
              have e : Lib.byteCells (l5 ++ [59]) = Lib.byteCells l5 ++ [.int .u8 59] := by simp [Lib.byteCells]
              rw [e]; exact hI6)
            have hst := Tryf.Builder_String_any w.heap.size w.heap.size (l5 ++ [59]) W6 hI6' (Nat.le_trans HS5.out.2.1.size hB6.size)
            have HB6 : Hid (Below w.heap.size w W6) := HS5.out.2.1.trans hB6
            clear h59' hI6 hI6' hB6
            go_wp2_with fail
            refine hst.mono ?_
            rintro e W7 ⟨rfl, hB7⟩
            go_wp2_with fail
            go_ret
            refine ⟨?_, HB6.out.trans hB7⟩
            have hl : l5 ++ [59] = itemL mo s wd ts x := by
              rw [HL5.out, HL4.out, HL3.out, HL2.out, HL1.out, HL0.out]
              rfl
            rw [hl]
            rfl
          · have hh4 := has_any x hx 4 (by omega) W4
            rw [t4] at hh4
            go_wp2_with fail
            refine hh4.mono ?_
            rintro e w' ⟨rfl, hw⟩
            subst w'
            clear hh4
            have HOK4 : Hid (Ok [] (ts.map ckt)) := ok4 ts hts
            obtain ⟨ao, cap, htv, _, htc⟩ := HC.out.tm
            have r4 := (HC.out.below HS4.out.2.1).c4
            rw [htv] at r4
            have HTC : Hid (∀ (j : Nat) (t : Int × Int), ts[j]? = some t → ∃ g, ao = some ⟨g, 0, none⟩ ∧ w.cell? ⟨g, j * 2, none⟩ = some (.int .i64 t.1) ∧ w.cell? ⟨g, j * 2 + 1, none⟩ = some (.int .i64 t.2)) := htc
            clear htc htv
            go_wp2_with fail
            clear r4
            go_loopw [8, 60] (fun v i wr => ∃ k : Nat, i = .int .i64 (k : Int) ∧ k ≤ ts.length ∧ Hid (wr.ownsRow W4.heap.size 9 1 v k (((ts.take k).map ckt).map Value.string) ∧ Below W4.heap.size W4 wr)) (fun _ i _ => ts.length - (intOf i).toNat)
            case atStart => exact ⟨0, rfl, by omega, World.ownsRow_nil _ _ _ _, Below.refl _ _⟩
            case round =>
            obtain ⟨k, rfl, hk, HR⟩ := hrel
            by_cases hlt : k < ts.length
            · have hlt1 : decide ((k : Int) < (ts.length : Int)) = true := by simp; omega
              obtain ⟨g, rfl, hg1, hg2⟩ := HTC.out k ts[k] (List.getElem?_eq_getElem hlt)
              have hbw : Below w.heap.size w wr := HS4.out.2.1.trans (HR.out.2.mono HS4.out.2.1.size)
              have k1 := cell_keep hbw hg1
              have k2 := cell_keep hbw hg2
              have hki : (k : Int) < (ts.length : Int) := by omega
              have hg0 : g < wr.heap.size := World.block_lt_of_cell? wr ⟨g, k * 2, none⟩ k1
              have hgn : ¬ g = wr.heap.size := by omega
              have htk : ts[k]? = some ts[k] := List.getElem?_eq_getElem hlt
              generalize ts[k] = t at *
              go_wp2_with fail
              obtain ⟨w1, hw1⟩ : ∃ W : World, W = wr.alloc (.cells #[.int .i64 t.1, .int .i64 t.2] 47) := ⟨_, rfl⟩
              have hb47 : w1.heap[wr.heap.size]? = some (.cells #[.int .i64 t.1, .int .i64 t.2] 47) := by rw [hw1]; exact World.alloc_heap_new wr _
              have e0 : w1.cell? ⟨wr.heap.size, 0, none⟩ = some (.int .i64 t.1) := by rw [hw1]; simp
              have e1 : w1.cell? ⟨wr.heap.size, 1, none⟩ = some (.int .i64 t.2) := by rw [hw1]; simp
              have z1 : w1.heap.size = wr.heap.size + 1 := by rw [hw1]; simp
              have x0 : ∀ W, SX W4 wr.heap.size t W → W.cell? ⟨wr.heap.size, 0, none⟩ = some (.int .i64 t.1) := fun W hb => hb.2.1
              have x1 : ∀ W, SX W4 wr.heap.size t W → W.cell? ⟨wr.heap.size, 1, none⟩ = some (.int .i64 t.2) := fun W hb => hb.2.2
              have HR1 : Hid (w1.ownsRow W4.heap.size 9 1 u8 k (((ts.take k).map ckt).map Value.string) ∧ Below W4.heap.size W4 w1 ∧ wr.heap.size ≤ w1.heap.size) := by
                refine ⟨?_, ?_, by omega⟩
                · rw [hw1]; exact HR.out.1.alloc _
                · rw [hw1]; exact HR.out.2.alloc HR.out.2.size _
              have hnr : u8.ownBlock ≠ some wr.heap.size := by
                rcases HR1.out.1.2 with ⟨h, _⟩ | ⟨g', cap', cur, h, _, hg', _⟩
                · rw [h]; simp [Value.ownBlock]
                · intro e
                  rw [h] at e
                  have : g' = wr.heap.size := by simpa [Value.ownBlock] using e
                  rw [this, hb47] at hg'
                  cases hg'
              have HSX : Hid (SX W4 wr.heap.size t w1 ∧ u8.ownBlock ≠ some wr.heap.size) := ⟨⟨HR1.out.2.1, e0, e1⟩, hnr⟩
              rw [← hw1]
              clear hw1 e0 e1 k1 k2 hg0 hgn hg1 hg2 z1 hb47 hnr
              have cbl : ∀ m, (cb m).length = 4 := fun m => rfl
              refine wp_region_held_drew (S := fun w' => SX W4 wr.heap.size t w') (by kernel_rfl) (HSX.out.1.below (Below.refl _ _).drew) (fun hHeld => ?_)
              refine wpAnyH_take (i := 0) (v := ?v0_9) rfl (by kernel_rfl) (by kernel_rfl) (by kernel_rfl) (fun _ _ _ h => h) (Or.inl ⟨by rfl, ?y0_9⟩) (by assumption) ?r0_9
              case y0_9 => intro w hSw; go_simp; try with_reducible rfl
              simp only [List.getElem_toArray, List.getElem_cons_succ, List.getElem_cons_zero, Act.put, List.setIfInBounds_toArray, List.set_cons_zero, List.set_cons_succ]
              refine wpAnyH_take (i := 1) (v := ?v1_10) rfl (by kernel_rfl) (by kernel_rfl) (by kernel_rfl) (fun _ _ _ h => h) (Or.inl ⟨by rfl, ?y1_10⟩) (by assumption) ?r1_10
              case y1_10 => intro w hSw; go_simp; try with_reducible rfl
              simp only [List.getElem_toArray, List.getElem_cons_succ, List.getElem_cons_zero, Act.put, List.setIfInBounds_toArray, List.set_cons_zero, List.set_cons_succ]
              refine wpAnyH_take (i := 2) (v := ?v2_11) rfl (by kernel_rfl) (by kernel_rfl) (by kernel_rfl) (fun _ _ _ h => h) (Or.inl ⟨by rfl, ?y2_11⟩) (by assumption) ?r2_11
              case y2_11 => intro w hSw; go_simp; try with_reducible rfl
              simp only [List.getElem_toArray, List.getElem_cons_succ, List.getElem_cons_zero, Act.put, List.setIfInBounds_toArray, List.set_cons_zero, List.set_cons_succ]
              refine wpAnyH_take (i := 5) (v := ?v5_12) rfl (by kernel_rfl) (by kernel_rfl) (by kernel_rfl) (fun _ _ _ h => h) (Or.inl ⟨by rfl, ?y5_12⟩) (by assumption) ?r5_12
              case y5_12 => intro w hSw; go_simp; try with_reducible rfl
              simp only [List.getElem_toArray, List.getElem_cons_succ, List.getElem_cons_zero, Act.put, List.setIfInBounds_toArray, List.set_cons_zero, List.set_cons_succ]
              refine wpAnyH_take (i := 6) (v := ?v6_13) rfl (by kernel_rfl) (by kernel_rfl) (by kernel_rfl) (fun _ _ _ h => h) (Or.inl ⟨by rfl, ?y6_13⟩) (by assumption) ?r6_13
              case y6_13 => intro w hSw; go_simp; try with_reducible rfl
              simp only [List.getElem_toArray, List.getElem_cons_succ, List.getElem_cons_zero, Act.put, List.setIfInBounds_toArray, List.set_cons_zero, List.set_cons_succ]
              refine wpAnyH_ready (rs := [3]) (by kernel_rfl) (by simp) ?_
              refine AllReadyH.cons rfl (fun K hK => ?_) AllReadyH.nil
              go_simp
              refine (clockText_any t.1 _).mono ?_
              rintro e w2 ⟨rfl, hb2⟩
              have hh2 : Below w1.heap.size w1 w2 := ((Below.refl w1.heap.size w1).drew).trans hb2
              refine hK.out _ _ (HSX.out.1.below hh2) (fun hH3 => ?_)
              clear hK K hb2
              refine wpAnyH_take (i := 4) (v := ?v4_14) rfl (by kernel_rfl) (by kernel_rfl) (by kernel_rfl) (fun _ _ _ h => h) (Or.inl ⟨by rfl, ?y4_14⟩) (by assumption) ?r4_14
              case y4_14 => intro w hSw; go_simp; try with_reducible rfl
              simp only [List.getElem_toArray, List.getElem_cons_succ, List.getElem_cons_zero, Act.put, List.setIfInBounds_toArray, List.set_cons_zero, List.set_cons_succ]
              refine wpAnyH_ready (rs := [7]) (by kernel_rfl) (by simp) ?_
              refine AllReadyH.cons rfl (fun K hK => ?_) AllReadyH.nil
              go_simp
              refine (clockText_any t.2 _).mono ?_
              rintro e w3 ⟨rfl, hb3⟩
              have hh3 : Below w1.heap.size w1 w3 := hh2.trans (hb3.mono hh2.size)
              refine hK.out _ _ (HSX.out.1.below hh3) (fun hH7 => ?_)
              clear hK K hb3
              refine wpAnyH_take (i := 8) (v := ?v8_15) rfl (by kernel_rfl) (by kernel_rfl) (by kernel_rfl) (fun _ _ _ h => h) (Or.inl ⟨by rfl, ?y8_15⟩) (by assumption) ?r8_15
              case y8_15 => intro w hSw; go_simp; try with_reducible rfl
              simp only [List.getElem_toArray, List.getElem_cons_succ, List.getElem_cons_zero, Act.put, List.setIfInBounds_toArray, List.set_cons_zero, List.set_cons_succ]
              refine wpAnyH_ready (rs := [9]) (by kernel_rfl) (by simp) ?_
              refine AllReadyH.cons rfl (fun K hK => ?_) AllReadyH.nil
              go_simp
              obtain ⟨w4, hw4⟩ : ∃ W : World, W = w3.alloc (.cells #[.string (⟨(cb t.1).toArray⟩ ++ ⟨#[45]⟩ ++ ⟨(cb t.2).toArray⟩)] 9) := ⟨_, rfl⟩
              have hh4 : Below w1.heap.size w1 w4 := by rw [hw4]; exact hh3.alloc hh3.size _
              have c4 : w4.cell? ⟨w3.heap.size, 0, none⟩ = some (.string (⟨(cb t.1).toArray⟩ ++ ⟨#[45]⟩ ++ ⟨(cb t.2).toArray⟩)) := by rw [hw4]; simp
              rw [← hw4]
              clear hw4
              refine hK.out _ _ (HSX.out.1.below hh4) (fun hH9 => ?_)
              clear hK K
              refine wpAnyH_ready (rs := [10]) (by kernel_rfl) (by simp) ?_
              refine AllReadyH.cons rfl (fun K hK => ?_) AllReadyH.nil
              refine app65 w4 (by rfl) _ _ (by rfl) W4.heap.size u8 k _ (by rfl) (own_below HR1.out.1 hh4 (Nat.le_refl _)) w3.heap.size 1 (.string (⟨(cb t.1).toArray⟩ ++ ⟨#[45]⟩ ++ ⟨(cb t.2).toArray⟩)) (by rfl) c4 rfl (by omega) (Nat.le_trans HR1.out.2.1.size hh4.size) ?_
              intro g' cap' w5 hown5 hgrow5 hat5 hlt5
              simp only [List.getElem_toArray, List.getElem_cons_succ, List.getElem_cons_zero, Act.put, List.setIfInBounds_toArray, List.set_cons_zero, List.set_cons_succ]
              have hS5 : SX W4 wr.heap.size t w5 := (HSX.out.1.below hh4).grown (own_below HR1.out.1 hh4 (Nat.le_refl _)) hgrow5 HSX.out.2
              refine hK.out _ _ hS5 (fun hH10 => ?_)
              clear hK K
              refine wpAnyH_take (i := 11) (v := ?v11_16) rfl (by kernel_rfl) (by kernel_rfl) (by kernel_rfl) (fun _ _ _ h => h) (Or.inl ⟨by rfl, ?y11_16⟩) (by assumption) ?r11_16
              case y11_16 => intro w hSw; go_simp; try with_reducible rfl
              simp only [List.getElem_toArray, List.getElem_cons_succ, List.getElem_cons_zero, Act.put, List.setIfInBounds_toArray, List.set_cons_zero, List.set_cons_succ]
              refine wpAnyH_done (by kernel_rfl) ?_ _
              have HN5 : Hid (w5.ownsRow W4.heap.size 9 1 (.slice (some ⟨g', 0, none⟩) (k + 1) cap') (k + 1) (((ts.take (k + 1)).map ckt).map Value.string) ∧ Below W4.heap.size W4 w5) := by
                refine ⟨?_, hS5.1⟩
                rw [List.take_add_one, htk]
                simp only [Option.toList_some, List.map_append, List.map_cons, List.map_nil]
                exact hown5
              clear hown5 hS5 hgrow5 hat5 hlt5 c4 hh4 hh3 hh2 hH10 hH9 hH7 hH3 hHeld x0 x1
              have hwk : IntKind.i64.wrap ((k : Int) + 1) = (k : Int) + 1 := by rw [IntKind.wrap_i64]; omega
              go_wp2_with fail
              go_roundw
              case rel => exact ⟨k + 1, by simp, by omega, HN5⟩
              case measure => simp [intOf]; omega
            · obtain rfl : k = ts.length := by omega
              have hrow := HR.out.1
              rw [List.take_length, ← List.length_map (f := ckt)] at hrow
              have hbl := HR.out.2
              have hi4 := isBuilder_below HS4.out.1 hbl
              have cw4 := writeSet_none w.heap.size w.heap.size W4.heap.size l4 u8 (ts.map ckt) wr hi4 hrow (by have := hbl.size; have := HS4.out.2.1.size; omega) (by have := HS4.out.2.2; omega) (by have := (HOK4.out).j; omega) (by have := (HOK4.out).n; omega)
              have HV4 : Hid (Below w.heap.size w wr) := HS4.out.2.1.trans (hbl.mono HS4.out.2.1.size)
              clear hrow hbl hi4
              go_wp2_with fail
              refine cw4.mono ?_
              rintro e W5 ⟨rfl, hI5, hB5⟩
              obtain ⟨l5, hl5⟩ : ∃ l, l = l4 ++ sg4 ts := ⟨_, rfl⟩
              have HS5 : Hid (Lib.IsBuilder 58 5 w.heap.size w.heap.size (Lib.byteCells l5) W5 ∧ Below w.heap.size w W5 ∧ l5.length ≤ 20000000009) := by
                refine ⟨?_, HV4.out.trans hB5, ?_⟩
                · rw [hl5]; exact hI5
                · rw [hl5, List.length_append]
                  have h1 := HS4.out.2.2
                  have h2 := (HOK4.out).s
                  have h3 : (sg4 ts).length ≤ 4000000001 := h2
                  omega
              have HL5 : Hid (l5 = l4 ++ (if x.testBit 4 then sg4 ts else [])) := by
                show l5 = _
                rw [t4, if_pos rfl]; exact hl5
              clear hI5 hB5 hl5 cw4
              have h59 := writeByte_any w.heap.size w.heap.size (Lib.byteCells l5) 59 W5 HS5.out.1 (by rw [Lib.byteCells_length]; have := HS5.out.2.2; omega) HS5.out.2.1.size
              have h59' : Calls Tryf.prog 30 #[.pointer (some ⟨w.heap.size, 0, none⟩), .int .u8 59] W5 fun e w' => e = .returned .nilIface ∧ Lib.BuilderAt 58 5 w.heap.size w.heap.size (.pointer (some ⟨w.heap.size, 0, none⟩)) (Lib.byteCells l5 ++ [.int .u8 59]) w' ∧ Below w.heap.size W5 w' ∧ KT w.heap.size W5 w' := h59
              clear h59
              go_wp2_with fail
              refine h59'.mono ?_
              rintro e W6 ⟨rfl, hI6, hB6, _⟩
              have hI6' : Lib.IsBuilder 58 5 w.heap.size w.heap.size (Lib.byteCells (l5 ++ [59])) W6 := .inr (by
                have e : Lib.byteCells (l5 ++ [59]) = Lib.byteCells l5 ++ [.int .u8 59] := by simp [Lib.byteCells]
                rw [e]; exact hI6)
              have hst := Tryf.Builder_String_any w.heap.size w.heap.size (l5 ++ [59]) W6 hI6' (Nat.le_trans HS5.out.2.1.size hB6.size)
              have HB6 : Hid (Below w.heap.size w W6) := HS5.out.2.1.trans hB6
              clear h59' hI6 hI6' hB6
              go_wp2_with fail
              refine hst.mono ?_
              rintro e W7 ⟨rfl, hB7⟩
              go_wp2_with fail
              go_ret
              refine ⟨?_, HB6.out.trans hB7⟩
              have hl : l5 ++ [59] = itemL mo s wd ts x := by
                rw [HL5.out, HL4.out, HL3.out, HL2.out, HL1.out, HL0.out]
                rfl
              rw [hl]
              rfl
      · have hh2 := has_any x hx 2 (by omega) W2
        rw [t2] at hh2
        go_wp2_with fail
        refine hh2.mono ?_
        rintro e w' ⟨rfl, hw⟩
        subst w'
        clear hh2
        have HOK2 : Hid (Ok [121, 101, 97, 114] ((yruns s).map (txt yN))) := ok2 s hs [121, 101, 97, 114] (by simp)
        have q2 := HC.out.below HS2.out.2.1
        have r2 := q2.c2
        have r12 := q2.d12
        clear q2
        have ct2 := texts_year (F := F) s hs W2 (HE.out.below HS2.out.2.1)
        go_wp2_with fail
        refine ct2.mono ?_
        rintro e V2 ⟨v2, rfl, hr2, hbv2⟩
        clear ct2
        clear r2 r12
        rw [← List.length_map (f := txt yN)] at hr2
        have hi2 := isBuilder_below HS2.out.1 hbv2
        have cw2 := writeSet_word w.heap.size w.heap.size W2.heap.size l2 ⟨#[121, 101, 97, 114]⟩ v2 ((yruns s).map (txt yN)) V2 hi2 hr2 (by have := hbv2.size; have := HS2.out.2.1.size; omega) (by decide +kernel) (by decide) (by decide) (by have := HS2.out.2.2; omega) (by have := (HOK2.out).j; omega) (by have := (HOK2.out).n; omega)
        have hbB2 : Below w.heap.size w V2 := HS2.out.2.1.trans (hbv2.mono HS2.out.2.1.size)
        have HV2 : Hid (Below w.heap.size w V2) := hbB2
        clear hbB2 hr2 hi2 hbv2
        go_wp2_with fail
        refine cw2.mono ?_
        rintro e W3 ⟨rfl, hI3, hB3⟩
        obtain ⟨l3, hl3⟩ : ∃ l, l = l2 ++ sg2 s := ⟨_, rfl⟩
        have HS3 : Hid (Lib.IsBuilder 58 5 w.heap.size w.heap.size (Lib.byteCells l3) W3 ∧ Below w.heap.size w W3 ∧ l3.length ≤ 12000000007) := by
          refine ⟨?_, HV2.out.trans hB3, ?_⟩
          · rw [hl3]; exact hI3
          · rw [hl3, List.length_append]
            have h1 := HS2.out.2.2
            have h2 := (HOK2.out).s
            have h3 : (sg2 s).length ≤ 4000000001 := h2
            omega
        have HL3 : Hid (l3 = l2 ++ (if x.testBit 2 then sg2 s else [])) := by
          show l3 = _
          rw [t2, if_pos rfl]; exact hl3
        clear hI3 hB3 hl3 cw2
        cases t3 : x.testBit 3
        · have hh3 := has_any x hx 3 (by omega) W3
          rw [t3] at hh3
          go_wp2_with fail
          refine hh3.mono ?_
          rintro e w' ⟨rfl, hw⟩
          subst w'
          clear hh3
          obtain ⟨W4, hW4⟩ : ∃ W, W = W3 := ⟨_, rfl⟩
          obtain ⟨l4, hl4⟩ : ∃ l, l = l3 := ⟨_, rfl⟩
          have HS4 : Hid (Lib.IsBuilder 58 5 w.heap.size w.heap.size (Lib.byteCells l4) W4 ∧ Below w.heap.size w W4 ∧ l4.length ≤ 16000000008) := by
            rw [hW4, hl4]
            exact ⟨HS3.out.1, HS3.out.2.1, by have := HS3.out.2.2; omega⟩
          have HL4 : Hid (l4 = l3 ++ (if x.testBit 3 then sg3 wd else [])) := by
            show l4 = _
            rw [t3, hl4]; simp
          rw [← hW4]
          clear hW4 hl4
          cases t4 : x.testBit 4
          · have hh4 := has_any x hx 4 (by omega) W4
            rw [t4] at hh4
            go_wp2_with fail
            refine hh4.mono ?_
            rintro e w' ⟨rfl, hw⟩
            subst w'
            clear hh4
            obtain ⟨W5, hW5⟩ : ∃ W, W = W4 := ⟨_, rfl⟩
            obtain ⟨l5, hl5⟩ : ∃ l, l = l4 := ⟨_, rfl⟩
            have HS5 : Hid (Lib.IsBuilder 58 5 w.heap.size w.heap.size (Lib.byteCells l5) W5 ∧ Below w.heap.size w W5 ∧ l5.length ≤ 20000000009) := by
              rw [hW5, hl5]
              exact ⟨HS4.out.1, HS4.out.2.1, by have := HS4.out.2.2; omega⟩
            have HL5 : Hid (l5 = l4 ++ (if x.testBit 4 then sg4 ts else [])) := by
              show l5 = _
              rw [t4, hl5]; simp
            rw [← hW5]
            clear hW5 hl5
            have h59 := writeByte_any w.heap.size w.heap.size (Lib.byteCells l5) 59 W5 HS5.out.1 (by rw [Lib.byteCells_length]; have := HS5.out.2.2; omega) HS5.out.2.1.size
            have h59' : Calls Tryf.prog 30 #[.pointer (some ⟨w.heap.size, 0, none⟩), .int .u8 59] W5 fun e w' => e = .returned .nilIface ∧ Lib.BuilderAt 58 5 w.heap.size w.heap.size (.pointer (some ⟨w.heap.size, 0, none⟩)) (Lib.byteCells l5 ++ [.int .u8 59]) w' ∧ Below w.heap.size W5 w' ∧ KT w.heap.size W5 w' := h59
            clear h59
            go_wp2_with fail
            refine h59'.mono ?_
            rintro e W6 ⟨rfl, hI6, hB6, _⟩
            have hI6' : Lib.IsBuilder 58 5 w.heap.size w.heap.size (Lib.byteCells (l5 ++ [59])) W6 := .inr (by
              have e : Lib.byteCells (l5 ++ [59]) = Lib.byteCells l5 ++ [.int .u8 59] := by simp [Lib.byteCells]
              rw [e]; exact hI6)
            have hst := Tryf.Builder_String_any w.heap.size w.heap.size (l5 ++ [59]) W6 hI6' (Nat.le_trans HS5.out.2.1.size hB6.size)
            have HB6 : Hid (Below w.heap.size w W6) := HS5.out.2.1.trans hB6
            clear h59' hI6 hI6' hB6
            go_wp2_with fail
            refine hst.mono ?_
            rintro e W7 ⟨rfl, hB7⟩
            go_wp2_with fail
            go_ret
            refine ⟨?_, HB6.out.trans hB7⟩
            have hl : l5 ++ [59] = itemL mo s wd ts x := by
              rw [HL5.out, HL4.out, HL3.out, HL2.out, HL1.out, HL0.out]
              rfl
            rw [hl]
            rfl
          · have hh4 := has_any x hx 4 (by omega) W4
            rw [t4] at hh4
            go_wp2_with fail
            refine hh4.mono ?_
            rintro e w' ⟨rfl, hw⟩
            subst w'
            clear hh4
            have HOK4 : Hid (Ok [] (ts.map ckt)) := ok4 ts hts
            obtain ⟨ao, cap, htv, _, htc⟩ := HC.out.tm
            have r4 := (HC.out.below HS4.out.2.1).c4
            rw [htv] at r4
            have HTC : Hid (∀ (j : Nat) (t : Int × Int), ts[j]? = some t → ∃ g, ao = some ⟨g, 0, none⟩ ∧ w.cell? ⟨g, j * 2, none⟩ = some (.int .i64 t.1) ∧ w.cell? ⟨g, j * 2 + 1, none⟩ = some (.int .i64 t.2)) := htc
            clear htc htv
            go_wp2_with fail
            clear r4
            go_loopw [8, 60] (fun v i wr => ∃ k : Nat, i = .int .i64 (k : Int) ∧ k ≤ ts.length ∧ Hid (wr.ownsRow W4.heap.size 9 1 v k (((ts.take k).map ckt).map Value.string) ∧ Below W4.heap.size W4 wr)) (fun _ i _ => ts.length - (intOf i).toNat)
            case atStart => exact ⟨0, rfl, by omega, World.ownsRow_nil _ _ _ _, Below.refl _ _⟩
            case round =>
            obtain ⟨k, rfl, hk, HR⟩ := hrel
            by_cases hlt : k < ts.length
            · have hlt1 : decide ((k : Int) < (ts.length : Int)) = true := by simp; omega
              obtain ⟨g, rfl, hg1, hg2⟩ := HTC.out k ts[k] (List.getElem?_eq_getElem hlt)
              have hbw : Below w.heap.size w wr := HS4.out.2.1.trans (HR.out.2.mono HS4.out.2.1.size)
              have k1 := cell_keep hbw hg1
              have k2 := cell_keep hbw hg2
              have hki : (k : Int) < (ts.length : Int) := by omega
              have hg0 : g < wr.heap.size := World.block_lt_of_cell? wr ⟨g, k * 2, none⟩ k1
              have hgn : ¬ g = wr.heap.size := by omega
              have htk : ts[k]? = some ts[k] := List.getElem?_eq_getElem hlt
              generalize ts[k] = t at *
              go_wp2_with fail
              obtain ⟨w1, hw1⟩ : ∃ W : World, W = wr.alloc (.cells #[.int .i64 t.1, .int .i64 t.2] 47) := ⟨_, rfl⟩
              have hb47 : w1.heap[wr.heap.size]? = some (.cells #[.int .i64 t.1, .int .i64 t.2] 47) := by rw [hw1]; exact World.alloc_heap_new wr _
              have e0 : w1.cell? ⟨wr.heap.size, 0, none⟩ = some (.int .i64 t.1) := by rw [hw1]; simp
              have e1 : w1.cell? ⟨wr.heap.size, 1, none⟩ = some (.int .i64 t.2) := by rw [hw1]; simp
              have z1 : w1.heap.size = wr.heap.size + 1 := by rw [hw1]; simp
              have x0 : ∀ W, SX W4 wr.heap.size t W → W.cell? ⟨wr.heap.size, 0, none⟩ = some (.int .i64 t.1) := fun W hb => hb.2.1
              have x1 : ∀ W, SX W4 wr.heap.size t W → W.cell? ⟨wr.heap.size, 1, none⟩ = some (.int .i64 t.2) := fun W hb => hb.2.2
              have HR1 : Hid (w1.ownsRow W4.heap.size 9 1 u8 k (((ts.take k).map ckt).map Value.string) ∧ Below W4.heap.size W4 w1 ∧ wr.heap.size ≤ w1.heap.size) := by
                refine ⟨?_, ?_, by omega⟩
                · rw [hw1]; exact HR.out.1.alloc _
                · rw [hw1]; exact HR.out.2.alloc HR.out.2.size _
              have hnr : u8.ownBlock ≠ some wr.heap.size := by
                rcases HR1.out.1.2 with ⟨h, _⟩ | ⟨g', cap', cur, h, _, hg', _⟩
                · rw [h]; simp [Value.ownBlock]
                · intro e
                  rw [h] at e
                  have : g' = wr.heap.size := by simpa [Value.ownBlock] using e
                  rw [this, hb47] at hg'
                  cases hg'
              have HSX : Hid (SX W4 wr.heap.size t w1 ∧ u8.ownBlock ≠ some wr.heap.size) := ⟨⟨HR1.out.2.1, e0, e1⟩, hnr⟩
              rw [← hw1]
              clear hw1 e0 e1 k1 k2 hg0 hgn hg1 hg2 z1 hb47 hnr
              have cbl : ∀ m, (cb m).length = 4 := fun m => rfl
              refine wp_region_held_drew (S := fun w' => SX W4 wr.heap.size t w') (by kernel_rfl) (HSX.out.1.below (Below.refl _ _).drew) (fun hHeld => ?_)
              refine wpAnyH_take (i := 0) (v := ?v0_17) rfl (by kernel_rfl) (by kernel_rfl) (by kernel_rfl) (fun _ _ _ h => h) (Or.inl ⟨by rfl, ?y0_17⟩) (by assumption) ?r0_17
              case y0_17 => intro w hSw; go_simp; try with_reducible rfl
              simp only [List.getElem_toArray, List.getElem_cons_succ, List.getElem_cons_zero, Act.put, List.setIfInBounds_toArray, List.set_cons_zero, List.set_cons_succ]
              refine wpAnyH_take (i := 1) (v := ?v1_18) rfl (by kernel_rfl) (by kernel_rfl) (by kernel_rfl) (fun _ _ _ h => h) (Or.inl ⟨by rfl, ?y1_18⟩) (by assumption) ?r1_18
              case y1_18 => intro w hSw; go_simp; try with_reducible rfl
              simp only [List.getElem_toArray, List.getElem_cons_succ, List.getElem_cons_zero, Act.put, List.setIfInBounds_toArray, List.set_cons_zero, List.set_cons_succ]
              refine wpAnyH_take (i := 2) (v := ?v2_19) rfl (by kernel_rfl) (by kernel_rfl) (by kernel_rfl) (fun _ _ _ h => h) (Or.inl ⟨by rfl, ?y2_19⟩) (by assumption) ?r2_19
              case y2_19 => intro w hSw; go_simp; try with_reducible rfl
              simp only [List.getElem_toArray, List.getElem_cons_succ, List.getElem_cons_zero, Act.put, List.setIfInBounds_toArray, List.set_cons_zero, List.set_cons_succ]
              refine wpAnyH_take (i := 5) (v := ?v5_20) rfl (by kernel_rfl) (by kernel_rfl) (by kernel_rfl) (fun _ _ _ h => h) (Or.inl ⟨by rfl, ?y5_20⟩) (by assumption) ?r5_20
              case y5_20 => intro w hSw; go_simp; try with_reducible rfl
              simp only [List.getElem_toArray, List.getElem_cons_succ, List.getElem_cons_zero, Act.put, List.setIfInBounds_toArray, List.set_cons_zero, List.set_cons_succ]
              refine wpAnyH_take (i := 6) (v := ?v6_21) rfl (by kernel_rfl) (by kernel_rfl) (by kernel_rfl) (fun _ _ _ h => h) (Or.inl ⟨by rfl, ?y6_21⟩) (by assumption) ?r6_21
              case y6_21 => intro w hSw; go_simp; try with_reducible rfl
              simp only [List.getElem_toArray, List.getElem_cons_succ, List.getElem_cons_zero, Act.put, List.setIfInBounds_toArray, List.set_cons_zero, List.set_cons_succ]
              refine wpAnyH_ready (rs := [3]) (by kernel_rfl) (by simp) ?_
              refine AllReadyH.cons rfl (fun K hK => ?_) AllReadyH.nil
              go_simp
              refine (clockText_any t.1 _).mono ?_
              rintro e w2 ⟨rfl, hb2⟩
              have hh2 : Below w1.heap.size w1 w2 := ((Below.refl w1.heap.size w1).drew).trans hb2
              refine hK.out _ _ (HSX.out.1.below hh2) (fun hH3 => ?_)
              clear hK K hb2
              refine wpAnyH_take (i := 4) (v := ?v4_22) rfl (by kernel_rfl) (by kernel_rfl) (by kernel_rfl) (fun _ _ _ h => h) (Or.inl ⟨by rfl, ?y4_22⟩) (by assumption) ?r4_22
              case y4_22 => intro w hSw; go_simp; try with_reducible rfl
              simp only [List.getElem_toArray, List.getElem_cons_succ, List.getElem_cons_zero, Act.put, List.setIfInBounds_toArray, List.set_cons_zero, List.set_cons_succ]
              refine wpAnyH_ready (rs := [7]) (by kernel_rfl) (by simp) ?_
              refine AllReadyH.cons rfl (fun K hK => ?_) AllReadyH.nil
              go_simp
              refine (clockText_any t.2 _).mono ?_
              rintro e w3 ⟨rfl, hb3⟩
              have hh3 : Below w1.heap.size w1 w3 := hh2.trans (hb3.mono hh2.size)
              refine hK.out _ _ (HSX.out.1.below hh3) (fun hH7 => ?_)
              clear hK K hb3
              refine wpAnyH_take (i := 8) (v := ?v8_23) rfl (by kernel_rfl) (by kernel_rfl) (by kernel_rfl) (fun _ _ _ h => h) (Or.inl ⟨by rfl, ?y8_23⟩) (by assumption) ?r8_23
              case y8_23 => intro w hSw; go_simp; try with_reducible rfl
              simp only [List.getElem_toArray, List.getElem_cons_succ, List.getElem_cons_zero, Act.put, List.setIfInBounds_toArray, List.set_cons_zero, List.set_cons_succ]
              refine wpAnyH_ready (rs := [9]) (by kernel_rfl) (by simp) ?_
              refine AllReadyH.cons rfl (fun K hK => ?_) AllReadyH.nil
              go_simp
              obtain ⟨w4, hw4⟩ : ∃ W : World, W = w3.alloc (.cells #[.string (⟨(cb t.1).toArray⟩ ++ ⟨#[45]⟩ ++ ⟨(cb t.2).toArray⟩)] 9) := ⟨_, rfl⟩
              have hh4 : Below w1.heap.size w1 w4 := by rw [hw4]; exact hh3.alloc hh3.size _
              have c4 : w4.cell? ⟨w3.heap.size, 0, none⟩ = some (.string (⟨(cb t.1).toArray⟩ ++ ⟨#[45]⟩ ++ ⟨(cb t.2).toArray⟩)) := by rw [hw4]; simp
              rw [← hw4]
              clear hw4
              refine hK.out _ _ (HSX.out.1.below hh4) (fun hH9 => ?_)
              clear hK K
              refine wpAnyH_ready (rs := [10]) (by kernel_rfl) (by simp) ?_
              refine AllReadyH.cons rfl (fun K hK => ?_) AllReadyH.nil
              refine app65 w4 (by rfl) _ _ (by rfl) W4.heap.size u8 k _ (by rfl) (own_below HR1.out.1 hh4 (Nat.le_refl _)) w3.heap.size 1 (.string (⟨(cb t.1).toArray⟩ ++ ⟨#[45]⟩ ++ ⟨(cb t.2).toArray⟩)) (by rfl) c4 rfl (by omega) (Nat.le_trans HR1.out.2.1.size hh4.size) ?_
              intro g' cap' w5 hown5 hgrow5 hat5 hlt5
              simp only [List.getElem_toArray, List.getElem_cons_succ, List.getElem_cons_zero, Act.put, List.setIfInBounds_toArray, List.set_cons_zero, List.set_cons_succ]
              have hS5 : SX W4 wr.heap.size t w5 := (HSX.out.1.below hh4).grown (own_below HR1.out.1 hh4 (Nat.le_refl _)) hgrow5 HSX.out.2
              refine hK.out _ _ hS5 (fun hH10 => ?_)
              clear hK K
              refine wpAnyH_take (i := 11) (v := ?v11_24) rfl (by kernel_rfl) (by kernel_rfl) (by kernel_rfl) (fun _ _ _ h => h) (Or.inl ⟨by rfl, ?y11_24⟩) (by assumption) ?r11_24
              case y11_24 => intro w hSw; go_simp; try with_reducible rfl
              simp only [List.getElem_toArray, List.getElem_cons_succ, List.getElem_cons_zero, Act.put, List.setIfInBounds_toArray, List.set_cons_zero, List.set_cons_succ]
              refine wpAnyH_done (by kernel_rfl) ?_ _
              have HN5 : Hid (w5.ownsRow W4.heap.size 9 1 (.slice (some ⟨g', 0, none⟩) (k + 1) cap') (k + 1) (((ts.take (k + 1)).map ckt).map Value.string) ∧ Below W4.heap.size W4 w5) := by
                refine ⟨?_, hS5.1⟩
                rw [List.take_add_one, htk]
                simp only [Option.toList_some, List.map_append, List.map_cons, List.map_nil]
                exact hown5
              clear hown5 hS5 hgrow5 hat5 hlt5 c4 hh4 hh3 hh2 hH10 hH9 hH7 hH3 hHeld x0 x1
              have hwk : IntKind.i64.wrap ((k : Int) + 1) = (k : Int) + 1 := by rw [IntKind.wrap_i64]; omega
              go_wp2_with fail
              go_roundw
              case rel => exact ⟨k + 1, by simp, by omega, HN5⟩
              case measure => simp [intOf]; omega
            · obtain rfl : k = ts.length := by omega
              have hrow := HR.out.1
              rw [List.take_length, ← List.length_map (f := ckt)] at hrow
              have hbl := HR.out.2
              have hi4 := isBuilder_below HS4.out.1 hbl
              have cw4 := writeSet_none w.heap.size w.heap.size W4.heap.size l4 u8 (ts.map ckt) wr hi4 hrow (by have := hbl.size; have := HS4.out.2.1.size; omega) (by have := HS4.out.2.2; omega) (by have := (HOK4.out).j; omega) (by have := (HOK4.out).n; omega)
              have HV4 : Hid (Below w.heap.size w wr) := HS4.out.2.1.trans (hbl.mono HS4.out.2.1.size)
              clear hrow hbl hi4
              go_wp2_with fail
              refine cw4.mono ?_
              rintro e W5 ⟨rfl, hI5, hB5⟩
              obtain ⟨l5, hl5⟩ : ∃ l, l = l4 ++ sg4 ts := ⟨_, rfl⟩
              have HS5 : Hid (Lib.IsBuilder 58 5 w.heap.size w.heap.size (Lib.byteCells l5) W5 ∧ Below w.heap.size w W5 ∧ l5.length ≤ 20000000009) := by
                refine ⟨?_, HV4.out.trans hB5, ?_⟩
                · rw [hl5]; exact hI5
                · rw [hl5, List.length_append]
                  have h1 := HS4.out.2.2
                  have h2 := (HOK4.out).s
                  have h3 : (sg4 ts).length ≤ 4000000001 := h2
                  omega
              have HL5 : Hid (l5 = l4 ++ (if x.testBit 4 then sg4 ts else [])) := by
                show l5 = _
                rw [t4, if_pos rfl]; exact hl5
              clear hI5 hB5 hl5 cw4
              have h59 := writeByte_any w.heap.size w.heap.size (Lib.byteCells l5) 59 W5 HS5.out.1 (by rw [Lib.byteCells_length]; have := HS5.out.2.2; omega) HS5.out.2.1.size
              have h59' : Calls Tryf.prog 30 #[.pointer (some ⟨w.heap.size, 0, none⟩), .int .u8 59] W5 fun e w' => e = .returned .nilIface ∧ Lib.BuilderAt 58 5 w.heap.size w.heap.size (.pointer (some ⟨w.heap.size, 0, none⟩)) (Lib.byteCells l5 ++ [.int .u8 59]) w' ∧ Below w.heap.size W5 w' ∧ KT w.heap.size W5 w' := h59
              clear h59
              go_wp2_with fail
              refine h59'.mono ?_
              rintro e W6 ⟨rfl, hI6, hB6, _⟩
              have hI6' : Lib.IsBuilder 58 5 w.heap.size w.heap.size (Lib.byteCells (l5 ++ [59])) W6 := .inr (by
                have e : Lib.byteCells (l5 ++ [59]) = Lib.byteCells l5 ++ [.int .u8 59] := by simp [Lib.byteCells]
                rw [e]; exact hI6)
              have hst := Tryf.Builder_String_any w.heap.size w.heap.size (l5 ++ [59]) W6 hI6' (Nat.le_trans HS5.out.2.1.size hB6.size)
              have HB6 : Hid (Below w.heap.size w W6) := HS5.out.2.1.trans hB6
              clear h59' hI6 hI6' hB6
              go_wp2_with fail
              refine hst.mono ?_
              rintro e W7 ⟨rfl, hB7⟩
              go_wp2_with fail
              go_ret
              refine ⟨?_, HB6.out.trans hB7⟩
              have hl : l5 ++ [59] = itemL mo s wd ts x := by
                rw [HL5.out, HL4.out, HL3.out, HL2.out, HL1.out, HL0.out]
                rfl
              rw [hl]
              rfl
        · have hh3 := has_any x hx 3 (by omega) W3
          rw [t3] at hh3
          go_wp2_with fail
          refine hh3.mono ?_
          rintro e w' ⟨rfl, hw⟩
          subst w'
          clear hh3
          have HOK3 : Hid (Ok [] ((runsOf wd).map (txt wkN))) := ok3 wd
          have q3 := HC.out.below HS3.out.2.1
          have r3 := q3.c3
          clear q3
          have ct3 := texts_day (F := F) wd hwd W3 (HE.out.below HS3.out.2.1)
          go_wp2_with fail
          refine ct3.mono ?_
          rintro e V3 ⟨v3, rfl, hr3, hbv3⟩
          clear ct3
          clear r3
          rw [← List.length_map (f := txt wkN)] at hr3
          have hi3 := isBuilder_below HS3.out.1 hbv3
          have cw3 := writeSet_none w.heap.size w.heap.size W3.heap.size l3 v3 ((runsOf wd).map (txt wkN)) V3 hi3 hr3 (by have := hbv3.size; have := HS3.out.2.1.size; omega) (by have := HS3.out.2.2; omega) (by have := (HOK3.out).j; omega) (by have := (HOK3.out).n; omega)
          have hbB3 : Below w.heap.size w V3 := HS3.out.2.1.trans (hbv3.mono HS3.out.2.1.size)
          have HV3 : Hid (Below w.heap.size w V3) := hbB3
          clear hbB3 hr3 hi3 hbv3
          go_wp2_with fail
          refine cw3.mono ?_
          rintro e W4 ⟨rfl, hI4, hB4⟩
          obtain ⟨l4, hl4⟩ : ∃ l, l = l3 ++ sg3 wd := ⟨_, rfl⟩
          have HS4 : Hid (Lib.IsBuilder 58 5 w.heap.size w.heap.size (Lib.byteCells l4) W4 ∧ Below w.heap.size w W4 ∧ l4.length ≤ 16000000008) := by
            refine ⟨?_, HV3.out.trans hB4, ?_⟩
            · rw [hl4]; exact hI4
            · rw [hl4, List.length_append]
              have h1 := HS3.out.2.2
              have h2 := (HOK3.out).s
              have h3 : (sg3 wd).length ≤ 4000000001 := h2
              omega
          have HL4 : Hid (l4 = l3 ++ (if x.testBit 3 then sg3 wd else [])) := by
            show l4 = _
            rw [t3, if_pos rfl]; exact hl4
          clear hI4 hB4 hl4 cw3
          cases t4 : x.testBit 4
          · have hh4 := has_any x hx 4 (by omega) W4
            rw [t4] at hh4
            go_wp2_with fail
            refine hh4.mono ?_
            rintro e w' ⟨rfl, hw⟩
            subst w'
            clear hh4
            obtain ⟨W5, hW5⟩ : ∃ W, W = W4 := ⟨_, rfl⟩
            obtain ⟨l5, hl5⟩ : ∃ l, l = l4 := ⟨_, rfl⟩
            have HS5 : Hid (Lib.IsBuilder 58 5 w.heap.size w.heap.size (Lib.byteCells l5) W5 ∧ Below w.heap.size w W5 ∧ l5.length ≤ 20000000009) := by
              rw [hW5, hl5]
              exact ⟨HS4.out.1, HS4.out.2.1, by have := HS4.out.2.2; omega⟩
            have HL5 : Hid (l5 = l4 ++ (if x.testBit 4 then sg4 ts else [])) := by
              show l5 = _
              rw [t4, hl5]; simp
            rw [← hW5]
            clear hW5 hl5
            have h59 := writeByte_any w.heap.size w.heap.size (Lib.byteCells l5) 59 W5 HS5.out.1 (by rw [Lib.byteCells_length]; have := HS5.out.2.2; omega) HS5.out.2.1.size
            have h59' : Calls Tryf.prog 30 #[.pointer (some ⟨w.heap.size, 0, none⟩), .int .u8 59] W5 fun e w' => e = .returned .nilIface ∧ Lib.BuilderAt 58 5 w.heap.size w.heap.size (.pointer (some ⟨w.heap.size, 0, none⟩)) (Lib.byteCells l5 ++ [.int .u8 59]) w' ∧ Below w.heap.size W5 w' ∧ KT w.heap.size W5 w' := h59
            clear h59
            go_wp2_with fail
            refine h59'.mono ?_
            rintro e W6 ⟨rfl, hI6, hB6, _⟩
            have hI6' : Lib.IsBuilder 58 5 w.heap.size w.heap.size (Lib.byteCells (l5 ++ [59])) W6 := .inr (by
              have e : Lib.byteCells (l5 ++ [59]) = Lib.byteCells l5 ++ [.int .u8 59] := by simp [Lib.byteCells]
              rw [e]; exact hI6)
            have hst := Tryf.Builder_String_any w.heap.size w.heap.size (l5 ++ [59]) W6 hI6' (Nat.le_trans HS5.out.2.1.size hB6.size)
            have HB6 : Hid (Below w.heap.size w W6) := HS5.out.2.1.trans hB6
            clear h59' hI6 hI6' hB6
            go_wp2_with fail
            refine hst.mono ?_
            rintro e W7 ⟨rfl, hB7⟩
            go_wp2_with fail
            go_ret
            refine ⟨?_, HB6.out.trans hB7⟩
            have hl : l5 ++ [59] = itemL mo s wd ts x := by
              rw [HL5.out, HL4.out, HL3.out, HL2.out, HL1.out, HL0.out]
              rfl
            rw [hl]
            rfl
          · have hh4 := has_any x hx 4 (by omega) W4
            rw [t4] at hh4
            go_wp2_with fail
            refine hh4.mono ?_
            rintro e w' ⟨rfl, hw⟩
            subst w'
            clear hh4
            have HOK4 : Hid (Ok [] (ts.map ckt)) := ok4 ts hts
            obtain ⟨ao, cap, htv, _, htc⟩ := HC.out.tm
            have r4 := (HC.out.below HS4.out.2.1).c4
            rw [htv] at r4
            have HTC : Hid (∀ (j : Nat) (t : Int × Int), ts[j]? = some t → ∃ g, ao = some ⟨g, 0, none⟩ ∧ w.cell? ⟨g, j * 2, none⟩ = some (.int .i64 t.1) ∧ w.cell? ⟨g, j * 2 + 1, none⟩ = some (.int .i64 t.2)) := htc
            clear htc htv
            go_wp2_with fail
            clear r4
            go_loopw [8, 60] (fun v i wr => ∃ k : Nat, i = .int .i64 (k : Int) ∧ k ≤ ts.length ∧ Hid (wr.ownsRow W4.heap.size 9 1 v k (((ts.take k).map ckt).map Value.string) ∧ Below W4.heap.size W4 wr)) (fun _ i _ => ts.length - (intOf i).toNat)
            case atStart => exact ⟨0, rfl, by omega, World.ownsRow_nil _ _ _ _, Below.refl _ _⟩
            case round =>
            obtain ⟨k, rfl, hk, HR⟩ := hrel
            by_cases hlt : k < ts.length
            · have hlt1 : decide ((k : Int) < (ts.length : Int)) = true := by simp; omega
              obtain ⟨g, rfl, hg1, hg2⟩ := HTC.out k ts[k] (List.getElem?_eq_getElem hlt)
              have hbw : Below w.heap.size w wr := HS4.out.2.1.trans (HR.out.2.mono HS4.out.2.1.size)
              have k1 := cell_keep hbw hg1
              have k2 := cell_keep hbw hg2
              have hki : (k : Int) < (ts.length : Int) := by omega
              have hg0 : g < wr.heap.size := World.block_lt_of_cell? wr ⟨g, k * 2, none⟩ k1
              have hgn : ¬ g = wr.heap.size := by omega
              have htk : ts[k]? = some ts[k] := List.getElem?_eq_getElem hlt
              generalize ts[k] = t at *
              go_wp2_with fail
              obtain ⟨w1, hw1⟩ : ∃ W : World, W = wr.alloc (.cells #[.int .i64 t.1, .int .i64 t.2] 47) := ⟨_, rfl⟩
              have hb47 : w1.heap[wr.heap.size]? = some (.cells #[.int .i64 t.1, .int .i64 t.2] 47) := by rw [hw1]; exact World.alloc_heap_new wr _
              have e0 : w1.cell? ⟨wr.heap.size, 0, none⟩ = some (.int .i64 t.1) := by rw [hw1]; simp
              have e1 : w1.cell? ⟨wr.heap.size, 1, none⟩ = some (.int .i64 t.2) := by rw [hw1]; simp
              have z1 : w1.heap.size = wr.heap.size + 1 := by rw [hw1]; simp
              have x0 : ∀ W, SX W4 wr.heap.size t W → W.cell? ⟨wr.heap.size, 0, none⟩ = some (.int .i64 t.1) := fun W hb => hb.2.1
              have x1 : ∀ W, SX W4 wr.heap.size t W → W.cell? ⟨wr.heap.size, 1, none⟩ = some (.int .i64 t.2) := fun W hb => hb.2.2
              have HR1 : Hid (w1.ownsRow W4.heap.size 9 1 u8 k (((ts.take k).map ckt).map Value.string) ∧ Below W4.heap.size W4 w1 ∧ wr.heap.size ≤ w1.heap.size) := by
                refine ⟨?_, ?_, by omega⟩
                · rw [hw1]; exact HR.out.1.alloc _
                · rw [hw1]; exact HR.out.2.alloc HR.out.2.size _
              have hnr : u8.ownBlock ≠ some wr.heap.size := by
                rcases HR1.out.1.2 with ⟨h, _⟩ | ⟨g', cap', cur, h, _, hg', _⟩
                · rw [h]; simp [Value.ownBlock]
                · intro e
                  rw [h] at e
                  have : g' = wr.heap.size := by simpa [Value.ownBlock] using e
                  rw [this, hb47] at hg'
                  cases hg'
              have HSX : Hid (SX W4 wr.heap.size t w1 ∧ u8.ownBlock ≠ some wr.heap.size) := ⟨⟨HR1.out.2.1, e0, e1⟩, hnr⟩
              rw [← hw1]
              clear hw1 e0 e1 k1 k2 hg0 hgn hg1 hg2 z1 hb47 hnr
              have cbl : ∀ m, (cb m).length = 4 := fun m => rfl
              refine wp_region_held_drew (S := fun w' => SX W4 wr.heap.size t w') (by kernel_rfl) (HSX.out.1.below (Below.refl _ _).drew) (fun hHeld => ?_)
              refine wpAnyH_take (i := 0) (v := ?v0_25) rfl (by kernel_rfl) (by kernel_rfl) (by kernel_rfl) (fun _ _ _ h => h) (Or.inl ⟨by rfl, ?y0_25⟩) (by assumption) ?r0_25
              case y0_25 => intro w hSw; go_simp; try with_reducible rfl
              simp only [List.getElem_toArray, List.getElem_cons_succ, List.getElem_cons_zero, Act.put, List.setIfInBounds_toArray, List.set_cons_zero, List.set_cons_succ]
              refine wpAnyH_take (i := 1) (v := ?v1_26) rfl (by kernel_rfl) (by kernel_rfl) (by kernel_rfl) (fun _ _ _ h => h) (Or.inl ⟨by rfl, ?y1_26⟩) (by assumption) ?r1_26
              case y1_26 => intro w hSw; go_simp; try with_reducible rfl
              simp only [List.getElem_toArray, List.getElem_cons_succ, List.getElem_cons_zero, Act.put, List.setIfInBounds_toArray, List.set_cons_zero, List.set_cons_succ]
              refine wpAnyH_take (i := 2) (v := ?v2_27) rfl (by kernel_rfl) (by kernel_rfl) (by kernel_rfl) (fun _ _ _ h => h) (Or.inl ⟨by rfl, ?y2_27⟩) (by assumption) ?r2_27
              case y2_27 => intro w hSw; go_simp; try with_reducible rfl
              simp only [List.getElem_toArray, List.getElem_cons_succ, List.getElem_cons_zero, Act.put, List.setIfInBounds_toArray, List.set_cons_zero, List.set_cons_succ]
              refine wpAnyH_take (i := 5) (v := ?v5_28) rfl (by kernel_rfl) (by kernel_rfl) (by kernel_rfl) (fun _ _ _ h => h) (Or.inl ⟨by rfl, ?y5_28⟩) (by assumption) ?r5_28
              case y5_28 => intro w hSw; go_simp; try with_reducible rfl
              simp only [List.getElem_toArray, List.getElem_cons_succ, List.getElem_cons_zero, Act.put, List.setIfInBounds_toArray, List.set_cons_zero, List.set_cons_succ]
              refine wpAnyH_take (i := 6) (v := ?v6_29) rfl (by kernel_rfl) (by kernel_rfl) (by kernel_rfl) (fun _ _ _ h => h) (Or.inl ⟨by rfl, ?y6_29⟩) (by assumption) ?r6_29
              case y6_29 => intro w hSw; go_simp; try with_reducible rfl
              simp only [List.getElem_toArray, List.getElem_cons_succ, List.getElem_cons_zero, Act.put, List.setIfInBounds_toArray, List.set_cons_zero, List.set_cons_succ]
              refine wpAnyH_ready (rs := [3]) (by kernel_rfl) (by simp) ?_
              refine AllReadyH.cons rfl (fun K hK => ?_) AllReadyH.nil
              go_simp
              refine (clockText_any t.1 _).mono ?_
              rintro e w2 ⟨rfl, hb2⟩
              have hh2 : Below w1.heap.size w1 w2 := ((Below.refl w1.heap.size w1).drew).trans hb2
              refine hK.out _ _ (HSX.out.1.below hh2) (fun hH3 => ?_)
              clear hK K hb2
              refine wpAnyH_take (i := 4) (v := ?v4_30) rfl (by kernel_rfl) (by kernel_rfl) (by kernel_rfl) (fun _ _ _ h => h) (Or.inl ⟨by rfl, ?y4_30⟩) (by assumption) ?r4_30
              case y4_30 => intro w hSw; go_simp; try with_reducible rfl
              simp only [List.getElem_toArray, List.getElem_cons_succ, List.getElem_cons_zero, Act.put, List.setIfInBounds_toArray, List.set_cons_zero, List.set_cons_succ]
              refine wpAnyH_ready (rs := [7]) (by kernel_rfl) (by simp) ?_
              refine AllReadyH.cons rfl (fun K hK => ?_) AllReadyH.nil
              go_simp
              refine (clockText_any t.2 _).mono ?_
              rintro e w3 ⟨rfl, hb3⟩
              have hh3 : Below w1.heap.size w1 w3 := hh2.trans (hb3.mono hh2.size)
              refine hK.out _ _ (HSX.out.1.below hh3) (fun hH7 => ?_)
              clear hK K hb3
              refine wpAnyH_take (i := 8) (v := ?v8_31) rfl (by kernel_rfl) (by kernel_rfl) (by kernel_rfl) (fun _ _ _ h => h) (Or.inl ⟨by rfl, ?y8_31⟩) (by assumption) ?r8_31
              case y8_31 => intro w hSw; go_simp; try with_reducible rfl
              simp only [List.getElem_toArray, List.getElem_cons_succ, List.getElem_cons_zero, Act.put, List.setIfInBounds_toArray, List.set_cons_zero, List.set_cons_succ]
              refine wpAnyH_ready (rs := [9]) (by kernel_rfl) (by simp) ?_
              refine AllReadyH.cons rfl (fun K hK => ?_) AllReadyH.nil
              go_simp
              obtain ⟨w4, hw4⟩ : ∃ W : World, W = w3.alloc (.cells #[.string (⟨(cb t.1).toArray⟩ ++ ⟨#[45]⟩ ++ ⟨(cb t.2).toArray⟩)] 9) := ⟨_, rfl⟩
              have hh4 : Below w1.heap.size w1 w4 := by rw [hw4]; exact hh3.alloc hh3.size _
              have c4 : w4.cell? ⟨w3.heap.size, 0, none⟩ = some (.string (⟨(cb t.1).toArray⟩ ++ ⟨#[45]⟩ ++ ⟨(cb t.2).toArray⟩)) := by rw [hw4]; simp
              rw [← hw4]
              clear hw4
              refine hK.out _ _ (HSX.out.1.below hh4) (fun hH9 => ?_)
              clear hK K
              refine wpAnyH_ready (rs := [10]) (by kernel_rfl) (by simp) ?_
              refine AllReadyH.cons rfl (fun K hK => ?_) AllReadyH.nil
              refine app65 w4 (by rfl) _ _ (by rfl) W4.heap.size u8 k _ (by rfl) (own_below HR1.out.1 hh4 (Nat.le_refl _)) w3.heap.size 1 (.string (⟨(cb t.1).toArray⟩ ++ ⟨#[45]⟩ ++ ⟨(cb t.2).toArray⟩)) (by rfl) c4 rfl (by omega) (Nat.le_trans HR1.out.2.1.size hh4.size) ?_
              intro g' cap' w5 hown5 hgrow5 hat5 hlt5
              simp only [List.getElem_toArray, List.getElem_cons_succ, List.getElem_cons_zero, Act.put, List.setIfInBounds_toArray, List.set_cons_zero, List.set_cons_succ]
              have hS5 : SX W4 wr.heap.size t w5 := (HSX.out.1.below hh4).grown (own_below HR1.out.1 hh4 (Nat.le_refl _)) hgrow5 HSX.out.2
              refine hK.out _ _ hS5 (fun hH10 => ?_)
              clear hK K
              refine wpAnyH_take (i := 11) (v := ?v11_32) rfl (by kernel_rfl) (by kernel_rfl) (by kernel_rfl) (fun _ _ _ h => h) (Or.inl ⟨by rfl, ?y11_32⟩) (by assumption) ?r11_32
              case y11_32 => intro w hSw; go_simp; try with_reducible rfl
              simp only [List.getElem_toArray, List.getElem_cons_succ, List.getElem_cons_zero, Act.put, List.setIfInBounds_toArray, List.set_cons_zero, List.set_cons_succ]
              refine wpAnyH_done (by kernel_rfl) ?_ _
              have HN5 : Hid (w5.ownsRow W4.heap.size 9 1 (.slice (some ⟨g', 0, none⟩) (k + 1) cap') (k + 1) (((ts.take (k + 1)).map ckt).map Value.string) ∧ Below W4.heap.size W4 w5) := by
                refine ⟨?_, hS5.1⟩
                rw [List.take_add_one, htk]
                simp only [Option.toList_some, List.map_append, List.map_cons, List.map_nil]
                exact hown5
              clear hown5 hS5 hgrow5 hat5 hlt5 c4 hh4 hh3 hh2 hH10 hH9 hH7 hH3 hHeld x0 x1
              have hwk : IntKind.i64.wrap ((k : Int) + 1) = (k : Int) + 1 := by rw [IntKind.wrap_i64]; omega
              go_wp2_with fail
              go_roundw
              case rel => exact ⟨k + 1, by simp, by omega, HN5⟩
              case measure => simp [intOf]; omega
            · obtain rfl : k = ts.length := by omega
              have hrow := HR.out.1
              rw [List.take_length, ← List.length_map (f := ckt)] at hrow
              have hbl := HR.out.2
              have hi4 := isBuilder_below HS4.out.1 hbl
              have cw4 := writeSet_none w.heap.size w.heap.size W4.heap.size l4 u8 (ts.map ckt) wr hi4 hrow (by have := hbl.size; have := HS4.out.2.1.size; omega) (by have := HS4.out.2.2; omega) (by have := (HOK4.out).j; omega) (by have := (HOK4.out).n; omega)
              have HV4 : Hid (Below w.heap.size w wr) := HS4.out.2.1.trans (hbl.mono HS4.out.2.1.size)
              clear hrow hbl hi4
              go_wp2_with fail
              refine cw4.mono ?_
              rintro e W5 ⟨rfl, hI5, hB5⟩
              obtain ⟨l5, hl5⟩ : ∃ l, l = l4 ++ sg4 ts := ⟨_, rfl⟩
              have HS5 : Hid (Lib.IsBuilder 58 5 w.heap.size w.heap.size (Lib.byteCells l5) W5 ∧ Below w.heap.size w W5 ∧ l5.length ≤ 20000000009) := by
                refine ⟨?_, HV4.out.trans hB5, ?_⟩
                · rw [hl5]; exact hI5
                · rw [hl5, List.length_append]
                  have h1 := HS4.out.2.2
                  have h2 := (HOK4.out).s
                  have h3 : (sg4 ts).length ≤ 4000000001 := h2
                  omega
              have HL5 : Hid (l5 = l4 ++ (if x.testBit 4 then sg4 ts else [])) := by
                show l5 = _
                rw [t4, if_pos rfl]; exact hl5
              clear hI5 hB5 hl5 cw4
              have h59 := writeByte_any w.heap.size w.heap.size (Lib.byteCells l5) 59 W5 HS5.out.1 (by rw [Lib.byteCells_length]; have := HS5.out.2.2; omega) HS5.out.2.1.size
              have h59' : Calls Tryf.prog 30 #[.pointer (some ⟨w.heap.size, 0, none⟩), .int .u8 59] W5 fun e w' => e = .returned .nilIface ∧ Lib.BuilderAt 58 5 w.heap.size w.heap.size (.pointer (some ⟨w.heap.size, 0, none⟩)) (Lib.byteCells l5 ++ [.int .u8 59]) w' ∧ Below w.heap.size W5 w' ∧ KT w.heap.size W5 w' := h59
              clear h59
              go_wp2_with fail
              refine h59'.mono ?_
              rintro e W6 ⟨rfl, hI6, hB6, _⟩
              have hI6' : Lib.IsBuilder 58 5 w.heap.size w.heap.size (Lib.byteCells (l5 ++ [59])) W6 := .inr (by
                have e : Lib.byteCells (l5 ++ [59]) = Lib.byteCells l5 ++ [.int .u8 59] := by simp [Lib.byteCells]
                rw [e]; exact hI6)
              have hst := Tryf.Builder_String_any w.heap.size w.heap.size (l5 ++ [59]) W6 hI6' (Nat.le_trans HS5.out.2.1.size hB6.size)
              have HB6 : Hid (Below w.heap.size w W6) := HS5.out.2.1.trans hB6
              clear h59' hI6 hI6' hB6
              go_wp2_with fail
              refine hst.mono ?_
              rintro e W7 ⟨rfl, hB7⟩
              go_wp2_with fail
              go_ret
              refine ⟨?_, HB6.out.trans hB7⟩
              have hl : l5 ++ [59] = itemL mo s wd ts x := by
                rw [HL5.out, HL4.out, HL3.out, HL2.out, HL1.out, HL0.out]
                rfl
              rw [hl]
              rfl
    · have hh1 := has_any x hx 1 (by omega) W1
      rw [t1] at hh1
      go_wp2_with fail
      refine hh1.mono ?_
      rintro e w' ⟨rfl, hw⟩
      subst w'
      clear hh1
      have HOK1 : Hid (Ok [109, 111, 110, 116, 104] ((runsOf (mAcc mo 12)).map (txt nmI))) := ok0 (mAcc mo 12) (mAcc_lt mo 12 (by omega)) [109, 111, 110, 116, 104] (by simp)
      have ct1 := texts_int (F := F) (mAcc mo 12) (mAcc_lt mo 12 (by omega)) W1 (HE.out.below HS1.out.2.1)
      go_wp2_with fail
      refine ct1.mono ?_
      rintro e V1 ⟨v1, rfl, hr1, hbv1⟩
      clear ct1
      rw [← List.length_map (f := txt nmI)] at hr1
      have hi1 := isBuilder_below HS1.out.1 hbv1
      have cw1 := writeSet_word w.heap.size w.heap.size W1.heap.size l1 ⟨#[109, 111, 110, 116, 104]⟩ v1 ((runsOf (mAcc mo 12)).map (txt nmI)) V1 hi1 hr1 (by have := hbv1.size; have := HS1.out.2.1.size; omega) (by decide +kernel) (by decide) (by decide) (by have := HS1.out.2.2; omega) (by have := (HOK1.out).j; omega) (by have := (HOK1.out).n; omega)
      have hbB1 : Below w.heap.size w V1 := HS1.out.2.1.trans (hbv1.mono HS1.out.2.1.size)
      have HV1 : Hid (Below w.heap.size w V1) := hbB1
      clear hbB1 hr1 hi1 hbv1
      go_wp2_with fail
      refine cw1.mono ?_
      rintro e W2 ⟨rfl, hI2, hB2⟩
      obtain ⟨l2, hl2⟩ : ∃ l, l = l1 ++ sg1 mo := ⟨_, rfl⟩
      have HS2 : Hid (Lib.IsBuilder 58 5 w.heap.size w.heap.size (Lib.byteCells l2) W2 ∧ Below w.heap.size w W2 ∧ l2.length ≤ 8000000006) := by
        refine ⟨?_, HV1.out.trans hB2, ?_⟩
        · rw [hl2]; exact hI2
        · rw [hl2, List.length_append]
          have h1 := HS1.out.2.2
          have h2 := (HOK1.out).s
          have h3 : (sg1 mo).length ≤ 4000000001 := h2
          omega
      have HL2 : Hid (l2 = l1 ++ (if x.testBit 1 then sg1 mo else [])) := by
        show l2 = _
        rw [t1, if_pos rfl]; exact hl2
      clear hI2 hB2 hl2 cw1
      cases t2 : x.testBit 2
      · have hh2 := has_any x hx 2 (by omega) W2
        rw [t2] at hh2
        go_wp2_with fail
        refine hh2.mono ?_
        rintro e w' ⟨rfl, hw⟩
        subst w'
        clear hh2
        obtain ⟨W3, hW3⟩ : ∃ W, W = W2 := ⟨_, rfl⟩
        obtain ⟨l3, hl3⟩ : ∃ l, l = l2 := ⟨_, rfl⟩
        have HS3 : Hid (Lib.IsBuilder 58 5 w.heap.size w.heap.size (Lib.byteCells l3) W3 ∧ Below w.heap.size w W3 ∧ l3.length ≤ 12000000007) := by
          rw [hW3, hl3]
          exact ⟨HS2.out.1, HS2.out.2.1, by have := HS2.out.2.2; omega⟩
        have HL3 : Hid (l3 = l2 ++ (if x.testBit 2 then sg2 s else [])) := by
          show l3 = _
          rw [t2, hl3]; simp
        rw [← hW3]
        clear hW3 hl3
        cases t3 : x.testBit 3
        · have hh3 := has_any x hx 3 (by omega) W3
          rw [t3] at hh3
          go_wp2_with fail
          refine hh3.mono ?_
          rintro e w' ⟨rfl, hw⟩
          subst w'
          clear hh3
          obtain ⟨W4, hW4⟩ : ∃ W, W = W3 := ⟨_, rfl⟩
          obtain ⟨l4, hl4⟩ : ∃ l, l = l3 := ⟨_, rfl⟩
          have HS4 : Hid (Lib.IsBuilder 58 5 w.heap.size w.heap.size (Lib.byteCells l4) W4 ∧ Below w.heap.size w W4 ∧ l4.length ≤ 16000000008) := by
            rw [hW4, hl4]
            exact ⟨HS3.out.1, HS3.out.2.1, by have := HS3.out.2.2; omega⟩
          have HL4 : Hid (l4 = l3 ++ (if x.testBit 3 then sg3 wd else [])) := by
            show l4 = _
            rw [t3, hl4]; simp
          rw [← hW4]
          clear hW4 hl4
          cases t4 : x.testBit 4
          · have hh4 := has_any x hx 4 (by omega) W4
            rw [t4] at hh4
            go_wp2_with fail
            refine hh4.mono ?_
            rintro e w' ⟨rfl, hw⟩
            subst w'
            clear hh4
            obtain ⟨W5, hW5⟩ : ∃ W, W = W4 := ⟨_, rfl⟩
            obtain ⟨l5, hl5⟩ : ∃ l, l = l4 := ⟨_, rfl⟩
            have HS5 : Hid (Lib.IsBuilder 58 5 w.heap.size w.heap.size (Lib.byteCells l5) W5 ∧ Below w.heap.size w W5 ∧ l5.length ≤ 20000000009) := by
              rw [hW5, hl5]
              exact ⟨HS4.out.1, HS4.out.2.1, by have := HS4.out.2.2; omega⟩
            have HL5 : Hid (l5 = l4 ++ (if x.testBit 4 then sg4 ts else [])) := by
              show l5 = _
              rw [t4, hl5]; simp
            rw [← hW5]
            clear hW5 hl5
            have h59 := writeByte_any w.heap.size w.heap.size (Lib.byteCells l5) 59 W5 HS5.out.1 (by rw [Lib.byteCells_length]; have := HS5.out.2.2; omega) HS5.out.2.1.size
            have h59' : Calls Tryf.prog 30 #[.pointer (some ⟨w.heap.size, 0, none⟩), .int .u8 59] W5 fun e w' => e = .returned .nilIface ∧ Lib.BuilderAt 58 5 w.heap.size w.heap.size (.pointer (some ⟨w.heap.size, 0, none⟩)) (Lib.byteCells l5 ++ [.int .u8 59]) w' ∧ Below w.heap.size W5 w' ∧ KT w.heap.size W5 w' := h59
            clear h59
            go_wp2_with fail
            refine h59'.mono ?_
            rintro e W6 ⟨rfl, hI6, hB6, _⟩
            have hI6' : Lib.IsBuilder 58 5 w.heap.size w.heap.size (Lib.byteCells (l5 ++ [59])) W6 := .inr (by
              have e : Lib.byteCells (l5 ++ [59]) = Lib.byteCells l5 ++ [.int .u8 59] := by simp [Lib.byteCells]
              rw [e]; exact hI6)
            have hst := Tryf.Builder_String_any w.heap.size w.heap.size (l5 ++ [59]) W6 hI6' (Nat.le_trans HS5.out.2.1.size hB6.size)
            have HB6 : Hid (Below w.heap.size w W6) := HS5.out.2.1.trans hB6
            clear h59' hI6 hI6' hB6
            go_wp2_with fail
            refine hst.mono ?_
            rintro e W7 ⟨rfl, hB7⟩
            go_wp2_with fail
            go_ret
            refine ⟨?_, HB6.out.trans hB7⟩
            have hl : l5 ++ [59] = itemL mo s wd ts x := by
              rw [HL5.out, HL4.out, HL3.out, HL2.out, HL1.out, HL0.out]
              rfl
            rw [hl]
            rfl
          · have hh4 := has_any x hx 4 (by omega) W4
            rw [t4] at hh4
            go_wp2_with fail
            refine hh4.mono ?_
            rintro e w' ⟨rfl, hw⟩
            subst w'
            clear hh4
            have HOK4 : Hid (Ok [] (ts.map ckt)) := ok4 ts hts
            obtain ⟨ao, cap, htv, _, htc⟩ := HC.out.tm
            have r4 := (HC.out.below HS4.out.2.1).c4
            rw [htv] at r4
            have HTC : Hid (∀ (j : Nat) (t : Int × Int), ts[j]? = some t → ∃ g, ao = some ⟨g, 0, none⟩ ∧ w.cell? ⟨g, j * 2, none⟩ = some (.int .i64 t.1) ∧ w.cell? ⟨g, j * 2 + 1, none⟩ = some (.int .i64 t.2)) := htc
            clear htc htv
            go_wp2_with fail
            clear r4
            go_loopw [8, 60] (fun v i wr => ∃ k : Nat, i = .int .i64 (k : Int) ∧ k ≤ ts.length ∧ Hid (wr.ownsRow W4.heap.size 9 1 v k (((ts.take k).map ckt).map Value.string) ∧ Below W4.heap.size W4 wr)) (fun _ i _ => ts.length - (intOf i).toNat)
            case atStart => exact ⟨0, rfl, by omega, World.ownsRow_nil _ _ _ _, Below.refl _ _⟩
            case round =>
            obtain ⟨k, rfl, hk, HR⟩ := hrel
            by_cases hlt : k < ts.length
            · have hlt1 : decide ((k : Int) < (ts.length : Int)) = true := by simp; omega
              obtain ⟨g, rfl, hg1, hg2⟩ := HTC.out k ts[k] (List.getElem?_eq_getElem hlt)
              have hbw : Below w.heap.size w wr := HS4.out.2.1.trans (HR.out.2.mono HS4.out.2.1.size)
              have k1 := cell_keep hbw hg1
              have k2 := cell_keep hbw hg2
              have hki : (k : Int) < (ts.length : Int) := by omega
              have hg0 : g < wr.heap.size := World.block_lt_of_cell? wr ⟨g, k * 2, none⟩ k1
              have hgn : ¬ g = wr.heap.size := by omega
              have htk : ts[k]? = some ts[k] := List.getElem?_eq_getElem hlt
              generalize ts[k] = t at *
              go_wp2_with fail
              obtain ⟨w1, hw1⟩ : ∃ W : World, W = wr.alloc (.cells #[.int .i64 t.1, .int .i64 t.2] 47) := ⟨_, rfl⟩
              have hb47 : w1.heap[wr.heap.size]? = some (.cells #[.int .i64 t.1, .int .i64 t.2] 47) := by rw [hw1]; exact World.alloc_heap_new wr _
              have e0 : w1.cell? ⟨wr.heap.size, 0, none⟩ = some (.int .i64 t.1) := by rw [hw1]; simp
              have e1 : w1.cell? ⟨wr.heap.size, 1, none⟩ = some (.int .i64 t.2) := by rw [hw1]; simp
              have z1 : w1.heap.size = wr.heap.size + 1 := by rw [hw1]; simp
              have x0 : ∀ W, SX W4 wr.heap.size t W → W.cell? ⟨wr.heap.size, 0, none⟩ = some (.int .i64 t.1) := fun W hb => hb.2.1
              have x1 : ∀ W, SX W4 wr.heap.size t W → W.cell? ⟨wr.heap.size, 1, none⟩ = some (.int .i64 t.2) := fun W hb => hb.2.2
              have HR1 : Hid (w1.ownsRow W4.heap.size 9 1 u8 k (((ts.take k).map ckt).map Value.string) ∧ Below W4.heap.size W4 w1 ∧ wr.heap.size ≤ w1.heap.size) := by
                refine ⟨?_, ?_, by omega⟩
                · rw [hw1]; exact HR.out.1.alloc _
                · rw [hw1]; exact HR.out.2.alloc HR.out.2.size _
              have hnr : u8.ownBlock ≠ some wr.heap.size := by
                rcases HR1.out.1.2 with ⟨h, _⟩ | ⟨g', cap', cur, h, _, hg', _⟩
                · rw [h]; simp [Value.ownBlock]
                · intro e
                  rw [h] at e
                  have : g' = wr.heap.size := by simpa [Value.ownBlock] using e
                  rw [this, hb47] at hg'
                  cases hg'
              have HSX : Hid (SX W4 wr.heap.size t w1 ∧ u8.ownBlock ≠ some wr.heap.size) := ⟨⟨HR1.out.2.1, e0, e1⟩, hnr⟩
              rw [← hw1]
              clear hw1 e0 e1 k1 k2 hg0 hgn hg1 hg2 z1 hb47 hnr
              have cbl : ∀ m, (cb m).length = 4 := fun m => rfl
              refine wp_region_held_drew (S := fun w' => SX W4 wr.heap.size t w') (by kernel_rfl) (HSX.out.1.below (Below.refl _ _).drew) (fun hHeld => ?_)
              refine wpAnyH_take (i := 0) (v := ?v0_33) rfl (by kernel_rfl) (by kernel_rfl) (by kernel_rfl) (fun _ _ _ h => h) (Or.inl ⟨by rfl, ?y0_33⟩) (by assumption) ?r0_33
              case y0_33 => intro w hSw; go_simp; try with_reducible rfl
              simp only [List.getElem_toArray, List.getElem_cons_succ, List.getElem_cons_zero, Act.put, List.setIfInBounds_toArray, List.set_cons_zero, List.set_cons_succ]
              refine wpAnyH_take (i := 1) (v := ?v1_34) rfl (by kernel_rfl) (by kernel_rfl) (by kernel_rfl) (fun _ _ _ h => h) (Or.inl ⟨by rfl, ?y1_34⟩) (by assumption) ?r1_34
              case y1_34 => intro w hSw; go_simp; try with_reducible rfl
              simp only [List.getElem_toArray, List.getElem_cons_succ, List.getElem_cons_zero, Act.put, List.setIfInBounds_toArray, List.set_cons_zero, List.set_cons_succ]
              refine wpAnyH_take (i := 2) (v := ?v2_35) rfl (by kernel_rfl) (by kernel_rfl) (by kernel_rfl) (fun _ _ _ h => h) (Or.inl ⟨by rfl, ?y2_35⟩) (by assumption) ?r2_35
              case y2_35 => intro w hSw; go_simp; try with_reducible rfl
              simp only [List.getElem_toArray, List.getElem_cons_succ, List.getElem_cons_zero, Act.put, List.setIfInBounds_toArray, List.set_cons_zero, List.set_cons_succ]
              refine wpAnyH_take (i := 5) (v := ?v5_36) rfl (by kernel_rfl) (by kernel_rfl) (by kernel_rfl) (fun _ _ _ h => h) (Or.inl ⟨by rfl, ?y5_36⟩) (by assumption) ?r5_36
              case y5_36 => intro w hSw; go_simp; try with_reducible rfl
              simp only [List.getElem_toArray, List.getElem_cons_succ, List.getElem_cons_zero, Act.put, List.setIfInBounds_toArray, List.set_cons_zero, List.set_cons_succ]
              refine wpAnyH_take (i := 6) (v := ?v6_37) rfl (by kernel_rfl) (by kernel_rfl) (by kernel_rfl) (fun _ _ _ h => h) (Or.inl ⟨by rfl, ?y6_37⟩) (by assumption) ?r6_37
              case y6_37 => intro w hSw; go_simp; try with_reducible rfl
              simp only [List.getElem_toArray, List.getElem_cons_succ, List.getElem_cons_zero, Act.put, List.setIfInBounds_toArray, List.set_cons_zero, List.set_cons_succ]
              refine wpAnyH_ready (rs := [3]) (by kernel_rfl) (by simp) ?_
              refine AllReadyH.cons rfl (fun K hK => ?_) AllReadyH.nil
              go_simp
              refine (clockText_any t.1 _).mono ?_
              rintro e w2 ⟨rfl, hb2⟩
              have hh2 : Below w1.heap.size w1 w2 := ((Below.refl w1.heap.size w1).drew).trans hb2
              refine hK.out _ _ (HSX.out.1.below hh2) (fun hH3 => ?_)
              clear hK K hb2
              refine wpAnyH_take (i := 4) (v := ?v4_38) rfl (by kernel_rfl) (by kernel_rfl) (by kernel_rfl) (fun _ _ _ h => h) (Or.inl ⟨by rfl, ?y4_38⟩) (by assumption) ?r4_38
              case y4_38 => intro w hSw; go_simp; try with_reducible rfl
              simp only [List.getElem_toArray, List.getElem_cons_succ, List.getElem_cons_zero, Act.put, List.setIfInBounds_toArray, List.set_cons_zero, List.set_cons_succ]
              refine wpAnyH_ready (rs := [7]) (by kernel_rfl) (by simp) ?_
              refine AllReadyH.cons rfl (fun K hK => ?_) AllReadyH.nil
              go_simp
              refine (clockText_any t.2 _).mono ?_
              rintro e w3 ⟨rfl, hb3⟩
              have hh3 : Below w1.heap.size w1 w3 := hh2.trans (hb3.mono hh2.size)
              refine hK.out _ _ (HSX.out.1.below hh3) (fun hH7 => ?_)
              clear hK K hb3
              refine wpAnyH_take (i := 8) (v := ?v8_39) rfl (by kernel_rfl) (by kernel_rfl) (by kernel_rfl) (fun _ _ _ h => h) (Or.inl ⟨by rfl, ?y8_39⟩) (by assumption) ?r8_39
              case y8_39 => intro w hSw; go_simp; try with_reducible rfl
              simp only [List.getElem_toArray, List.getElem_cons_succ, List.getElem_cons_zero, Act.put, List.setIfInBounds_toArray, List.set_cons_zero, List.set_cons_succ]
              refine wpAnyH_ready (rs := [9]) (by kernel_rfl) (by simp) ?_
              refine AllReadyH.cons rfl (fun K hK => ?_) AllReadyH.nil
              go_simp
              obtain ⟨w4, hw4⟩ : ∃ W : World, W = w3.alloc (.cells #[.string (⟨(cb t.1).toArray⟩ ++ ⟨#[45]⟩ ++ ⟨(cb t.2).toArray⟩)] 9) := ⟨_, rfl⟩
              have hh4 : Below w1.heap.size w1 w4 := by rw [hw4]; exact hh3.alloc hh3.size _
              have c4 : w4.cell? ⟨w3.heap.size, 0, none⟩ = some (.string (⟨(cb t.1).toArray⟩ ++ ⟨#[45]⟩ ++ ⟨(cb t.2).toArray⟩)) := by rw [hw4]; simp
              rw [← hw4]
              clear hw4
              refine hK.out _ _ (HSX.out.1.below hh4) (fun hH9 => ?_)
              clear hK K
              refine wpAnyH_ready (rs := [10]) (by kernel_rfl) (by simp) ?_
              refine AllReadyH.cons rfl (fun K hK => ?_) AllReadyH.nil
              refine app65 w4 (by rfl) _ _ (by rfl) W4.heap.size u8 k _ (by rfl) (own_below HR1.out.1 hh4 (Nat.le_refl _)) w3.heap.size 1 (.string (⟨(cb t.1).toArray⟩ ++ ⟨#[45]⟩ ++ ⟨(cb t.2).toArray⟩)) (by rfl) c4 rfl (by omega) (Nat.le_trans HR1.out.2.1.size hh4.size) ?_
              intro g' cap' w5 hown5 hgrow5 hat5 hlt5
              simp only [List.getElem_toArray, List.getElem_cons_succ, List.getElem_cons_zero, Act.put, List.setIfInBounds_toArray, List.set_cons_zero, List.set_cons_succ]
              have hS5 : SX W4 wr.heap.size t w5 := (HSX.out.1.below hh4).grown (own_below HR1.out.1 hh4 (Nat.le_refl _)) hgrow5 HSX.out.2
              refine hK.out _ _ hS5 (fun hH10 => ?_)
              clear hK K
              refine wpAnyH_take (i := 11) (v := ?v11_40) rfl (by kernel_rfl) (by kernel_rfl) (by kernel_rfl) (fun _ _ _ h => h) (Or.inl ⟨by rfl, ?y11_40⟩) (by assumption) ?r11_40
              case y11_40 => intro w hSw; go_simp; try with_reducible rfl
              simp only [List.getElem_toArray, List.getElem_cons_succ, List.getElem_cons_zero, Act.put, List.setIfInBounds_toArray, List.set_cons_zero, List.set_cons_succ]
              refine wpAnyH_done (by kernel_rfl) ?_ _
              have HN5 : Hid (w5.ownsRow W4.heap.size 9 1 (.slice (some ⟨g', 0, none⟩) (k + 1) cap') (k + 1) (((ts.take (k + 1)).map ckt).map Value.string) ∧ Below W4.heap.size W4 w5) := by
                refine ⟨?_, hS5.1⟩
                rw [List.take_add_one, htk]
                simp only [Option.toList_some, List.map_append, List.map_cons, List.map_nil]
                exact hown5
              clear hown5 hS5 hgrow5 hat5 hlt5 c4 hh4 hh3 hh2 hH10 hH9 hH7 hH3 hHeld x0 x1
              have hwk : IntKind.i64.wrap ((k : Int) + 1) = (k : Int) + 1 := by rw [IntKind.wrap_i64]; omega
              go_wp2_with fail
              go_roundw
              case rel => exact ⟨k + 1, by simp, by omega, HN5⟩
              case measure => simp [intOf]; omega
            · obtain rfl : k = ts.length := by omega
              have hrow := HR.out.1
              rw [List.take_length, ← List.length_map (f := ckt)] at hrow
              have hbl := HR.out.2
              have hi4 := isBuilder_below HS4.out.1 hbl
              have cw4 := writeSet_none w.heap.size w.heap.size W4.heap.size l4 u8 (ts.map ckt) wr hi4 hrow (by have := hbl.size; have := HS4.out.2.1.size; omega) (by have := HS4.out.2.2; omega) (by have := (HOK4.out).j; omega) (by have := (HOK4.out).n; omega)
              have HV4 : Hid (Below w.heap.size w wr) := HS4.out.2.1.trans (hbl.mono HS4.out.2.1.size)
              clear hrow hbl hi4
              go_wp2_with fail
              refine cw4.mono ?_
              rintro e W5 ⟨rfl, hI5, hB5⟩
              obtain ⟨l5, hl5⟩ : ∃ l, l = l4 ++ sg4 ts := ⟨_, rfl⟩
              have HS5 : Hid (Lib.IsBuilder 58 5 w.heap.size w.heap.size (Lib.byteCells l5) W5 ∧ Below w.heap.size w W5 ∧ l5.length ≤ 20000000009) := by
                refine ⟨?_, HV4.out.trans hB5, ?_⟩
                · rw [hl5]; exact hI5
                · rw [hl5, List.length_append]
                  have h1 := HS4.out.2.2
                  have h2 := (HOK4.out).s
                  have h3 : (sg4 ts).length ≤ 4000000001 := h2
                  omega
              have HL5 : Hid (l5 = l4 ++ (if x.testBit 4 then sg4 ts else [])) := by
                show l5 = _
                rw [t4, if_pos rfl]; exact hl5
              clear hI5 hB5 hl5 cw4
              have h59 := writeByte_any w.heap.size w.heap.size (Lib.byteCells l5) 59 W5 HS5.out.1 (by rw [Lib.byteCells_length]; have := HS5.out.2.2; omega) HS5.out.2.1.size
              have h59' : Calls Tryf.prog 30 #[.pointer (some ⟨w.heap.size, 0, none⟩), .int .u8 59] W5 fun e w' => e = .returned .nilIface ∧ Lib.BuilderAt 58 5 w.heap.size w.heap.size (.pointer (some ⟨w.heap.size, 0, none⟩)) (Lib.byteCells l5 ++ [.int .u8 59]) w' ∧ Below w.heap.size W5 w' ∧ KT w.heap.size W5 w' := h59
              clear h59
              go_wp2_with fail
              refine h59'.mono ?_
              rintro e W6 ⟨rfl, hI6, hB6, _⟩
              have hI6' : Lib.IsBuilder 58 5 w.heap.size w.heap.size (Lib.byteCells (l5 ++ [59])) W6 := .inr (by
                have e : Lib.byteCells (l5 ++ [59]) = Lib.byteCells l5 ++ [.int .u8 59] := by simp [Lib.byteCells]
                rw [e]; exact hI6)
              have hst := Tryf.Builder_String_any w.heap.size w.heap.size (l5 ++ [59]) W6 hI6' (Nat.le_trans HS5.out.2.1.size hB6.size)
              have HB6 : Hid (Below w.heap.size w W6) := HS5.out.2.1.trans hB6
              clear h59' hI6 hI6' hB6
              go_wp2_with fail
              refine hst.mono ?_
              rintro e W7 ⟨rfl, hB7⟩
              go_wp2_with fail
              go_ret
              refine ⟨?_, HB6.out.trans hB7⟩
              have hl : l5 ++ [59] = itemL mo s wd ts x := by
                rw [HL5.out, HL4.out, HL3.out, HL2.out, HL1.out, HL0.out]
                rfl
              rw [hl]
              rfl
        · have hh3 := has_any x hx 3 (by omega) W3
          rw [t3] at hh3
          go_wp2_with fail
          refine hh3.mono ?_
          rintro e w' ⟨rfl, hw⟩
          subst w'
          clear hh3
          have HOK3 : Hid (Ok [] ((runsOf wd).map (txt wkN))) := ok3 wd
          have q3 := HC.out.below HS3.out.2.1
          have r3 := q3.c3
          clear q3
          have ct3 := texts_day (F := F) wd hwd W3 (HE.out.below HS3.out.2.1)
          go_wp2_with fail
          refine ct3.mono ?_
          rintro e V3 ⟨v3, rfl, hr3, hbv3⟩
          clear ct3
          clear r3
          rw [← List.length_map (f := txt wkN)] at hr3
          have hi3 := isBuilder_below HS3.out.1 hbv3
          have cw3 := writeSet_none w.heap.size w.heap.size W3.heap.size l3 v3 ((runsOf wd).map (txt wkN)) V3 hi3 hr3 (by have := hbv3.size; have := HS3.out.2.1.size; omega) (by have := HS3.out.2.2; omega) (by have := (HOK3.out).j; omega) (by have := (HOK3.out).n; omega)
          have hbB3 : Below w.heap.size w V3 := HS3.out.2.1.trans (hbv3.mono HS3.out.2.1.size)
          have HV3 : Hid (Below w.heap.size w V3) := hbB3
          clear hbB3 hr3 hi3 hbv3
          go_wp2_with fail
          refine cw3.mono ?_
          rintro e W4 ⟨rfl, hI4, hB4⟩
          obtain ⟨l4, hl4⟩ : ∃ l, l = l3 ++ sg3 wd := ⟨_, rfl⟩
          have HS4 : Hid (Lib.IsBuilder 58 5 w.heap.size w.heap.size (Lib.byteCells l4) W4 ∧ Below w.heap.size w W4 ∧ l4.length ≤ 16000000008) := by
            refine ⟨?_, HV3.out.trans hB4, ?_⟩
            · rw [hl4]; exact hI4
            · rw [hl4, List.length_append]
              have h1 := HS3.out.2.2
              have h2 := (HOK3.out).s
              have h3 : (sg3 wd).length ≤ 4000000001 := h2
              omega
          have HL4 : Hid (l4 = l3 ++ (if x.testBit 3 then sg3 wd else [])) := by
            show l4 = _
            rw [t3, if_pos rfl]; exact hl4
          clear hI4 hB4 hl4 cw3
          cases t4 : x.testBit 4
          · have hh4 := has_any x hx 4 (by omega) W4
            rw [t4] at hh4
            go_wp2_with fail
            refine hh4.mono ?_
            rintro e w' ⟨rfl, hw⟩
            subst w'
            clear hh4
            obtain ⟨W5, hW5⟩ : ∃ W, W = W4 := ⟨_, rfl⟩
            obtain ⟨l5, hl5⟩ : ∃ l, l = l4 := ⟨_, rfl⟩
            have HS5 : Hid (Lib.IsBuilder 58 5 w.heap.size w.heap.size (Lib.byteCells l5) W5 ∧ Below w.heap.size w W5 ∧ l5.length ≤ 20000000009) := by
              rw [hW5, hl5]
              exact ⟨HS4.out.1, HS4.out.2.1, by have := HS4.out.2.2; omega⟩
            have HL5 : Hid (l5 = l4 ++ (if x.testBit 4 then sg4 ts else [])) := by
              show l5 = _
              rw [t4, hl5]; simp
            rw [← hW5]
            clear hW5 hl5
            have h59 := writeByte_any w.heap.size w.heap.size (Lib.byteCells l5) 59 W5 HS5.out.1 (by rw [Lib.byteCells_length]; have := HS5.out.2.2; omega) HS5.out.2.1.size
            have h59' : Calls Tryf.prog 30 #[.pointer (some ⟨w.heap.size, 0, none⟩), .int .u8 59] W5 fun e w' => e = .returned .nilIface ∧ Lib.BuilderAt 58 5 w.heap.size w.heap.size (.pointer (some ⟨w.heap.size, 0, none⟩)) (Lib.byteCells l5 ++ [.int .u8 59]) w' ∧ Below w.heap.size W5 w' ∧ KT w.heap.size W5 w' := h59
            clear h59
            go_wp2_with fail
            refine h59'.mono ?_
            rintro e W6 ⟨rfl, hI6, hB6, _⟩
            have hI6' : Lib.IsBuilder 58 5 w.heap.size w.heap.size (Lib.byteCells (l5 ++ [59])) W6 := .inr (by
              have e : Lib.byteCells (l5 ++ [59]) = Lib.byteCells l5 ++ [.int .u8 59] := by simp [Lib.byteCells]
              rw [e]; exact hI6)
            have hst := Tryf.Builder_String_any w.heap.size w.heap.size (l5 ++ [59]) W6 hI6' (Nat.le_trans HS5.out.2.1.size hB6.size)
            have HB6 : Hid (Below w.heap.size w W6) := HS5.out.2.1.trans hB6
            clear h59' hI6 hI6' hB6
            go_wp2_with fail
            refine hst.mono ?_
            rintro e W7 ⟨rfl, hB7⟩
            go_wp2_with fail
            go_ret
            refine ⟨?_, HB6.out.trans hB7⟩
            have hl : l5 ++ [59] = itemL mo s wd ts x := by
              rw [HL5.out, HL4.out, HL3.out, HL2.out, HL1.out, HL0.out]
              rfl
            rw [hl]
            rfl
          · have hh4 := has_any x hx 4 (by omega) W4
            rw [t4] at hh4
            go_wp2_with fail
            refine hh4.mono ?_
            rintro e w' ⟨rfl, hw⟩
            subst w'
            clear hh4
            have HOK4 : Hid (Ok [] (ts.map ckt)) := ok4 ts hts
            obtain ⟨ao, cap, htv, _, htc⟩ := HC.out.tm
            have r4 := (HC.out.below HS4.out.2.1).c4
            rw [htv] at r4
            have HTC : Hid (∀ (j : Nat) (t : Int × Int), ts[j]? = some t → ∃ g, ao = some ⟨g, 0, none⟩ ∧ w.cell? ⟨g, j * 2, none⟩ = some (.int .i64 t.1) ∧ w.cell? ⟨g, j * 2 + 1, none⟩ = some (.int .i64 t.2)) := htc
            clear htc htv
            go_wp2_with fail
            clear r4
            go_loopw [8, 60] (fun v i wr => ∃ k : Nat, i = .int .i64 (k : Int) ∧ k ≤ ts.length ∧ Hid (wr.ownsRow W4.heap.size 9 1 v k (((ts.take k).map ckt).map Value.string) ∧ Below W4.heap.size W4 wr)) (fun _ i _ => ts.length - (intOf i).toNat)
            case atStart => exact ⟨0, rfl, by omega, World.ownsRow_nil _ _ _ _, Below.refl _ _⟩
            case round =>
            obtain ⟨k, rfl, hk, HR⟩ := hrel
            by_cases hlt : k < ts.length
            · have hlt1 : decide ((k : Int) < (ts.length : Int)) = true := by simp; omega
              obtain ⟨g, rfl, hg1, hg2⟩ := HTC.out k ts[k] (List.getElem?_eq_getElem hlt)
              have hbw : Below w.heap.size w wr := HS4.out.2.1.trans (HR.out.2.mono HS4.out.2.1.size)
              have k1 := cell_keep hbw hg1
              have k2 := cell_keep hbw hg2
              have hki : (k : Int) < (ts.length : Int) := by omega
              have hg0 : g < wr.heap.size := World.block_lt_of_cell? wr ⟨g, k * 2, none⟩ k1
              have hgn : ¬ g = wr.heap.size := by omega
              have htk : ts[k]? = some ts[k] := List.getElem?_eq_getElem hlt
              generalize ts[k] = t at *
              go_wp2_with fail
              obtain ⟨w1, hw1⟩ : ∃ W : World, W = wr.alloc (.cells #[.int .i64 t.1, .int .i64 t.2] 47) := ⟨_, rfl⟩
              have hb47 : w1.heap[wr.heap.size]? = some (.cells #[.int .i64 t.1, .int .i64 t.2] 47) := by rw [hw1]; exact World.alloc_heap_new wr _
              have e0 : w1.cell? ⟨wr.heap.size, 0, none⟩ = some (.int .i64 t.1) := by rw [hw1]; simp
              have e1 : w1.cell? ⟨wr.heap.size, 1, none⟩ = some (.int .i64 t.2) := by rw [hw1]; simp
              have z1 : w1.heap.size = wr.heap.size + 1 := by rw [hw1]; simp
              have x0 : ∀ W, SX W4 wr.heap.size t W → W.cell? ⟨wr.heap.size, 0, none⟩ = some (.int .i64 t.1) := fun W hb => hb.2.1
              have x1 : ∀ W, SX W4 wr.heap.size t W → W.cell? ⟨wr.heap.size, 1, none⟩ = some (.int .i64 t.2) := fun W hb => hb.2.2
              have HR1 : Hid (w1.ownsRow W4.heap.size 9 1 u8 k (((ts.take k).map ckt).map Value.string) ∧ Below W4.heap.size W4 w1 ∧ wr.heap.size ≤ w1.heap.size) := by
                refine ⟨?_, ?_, by omega⟩
                · rw [hw1]; exact HR.out.1.alloc _
                · rw [hw1]; exact HR.out.2.alloc HR.out.2.size _
              have hnr : u8.ownBlock ≠ some wr.heap.size := by
                rcases HR1.out.1.2 with ⟨h, _⟩ | ⟨g', cap', cur, h, _, hg', _⟩
                · rw [h]; simp [Value.ownBlock]
                · intro e
                  rw [h] at e
                  have : g' = wr.heap.size := by simpa [Value.ownBlock] using e
                  rw [this, hb47] at hg'
                  cases hg'
              have HSX : Hid (SX W4 wr.heap.size t w1 ∧ u8.ownBlock ≠ some wr.heap.size) := ⟨⟨HR1.out.2.1, e0, e1⟩, hnr⟩
              rw [← hw1]
              clear hw1 e0 e1 k1 k2 hg0 hgn hg1 hg2 z1 hb47 hnr
              have cbl : ∀ m, (cb m).length = 4 := fun m => rfl
              refine wp_region_held_drew (S := fun w' => SX W4 wr.heap.size t w') (by kernel_rfl) (HSX.out.1.below (Below.refl _ _).drew) (fun hHeld => ?_)
              refine wpAnyH_take (i := 0) (v := ?v0_41) rfl (by kernel_rfl) (by kernel_rfl) (by kernel_rfl) (fun _ _ _ h => h) (Or.inl ⟨by rfl, ?y0_41⟩) (by assumption) ?r0_41
              case y0_41 => intro w hSw; go_simp; try with_reducible rfl
              simp only [List.getElem_toArray, List.getElem_cons_succ, List.getElem_cons_zero, Act.put, List.setIfInBounds_toArray, List.set_cons_zero, List.set_cons_succ]
              refine wpAnyH_take (i := 1) (v := ?v1_42) rfl (by kernel_rfl) (by kernel_rfl) (by kernel_rfl) (fun _ _ _ h => h) (Or.inl ⟨by rfl, ?y1_42⟩) (by assumption) ?r1_42
              case y1_42 => intro w hSw; go_simp; try with_reducible rfl
              simp only [List.getElem_toArray, List.getElem_cons_succ, List.getElem_cons_zero, Act.put, List.setIfInBounds_toArray, List.set_cons_zero, List.set_cons_succ]
              refine wpAnyH_take (i := 2) (v := ?v2_43) rfl (by kernel_rfl) (by kernel_rfl) (by kernel_rfl) (fun _ _ _ h => h) (Or.inl ⟨by rfl, ?y2_43⟩) (by assumption) ?r2_43
              case y2_43 => intro w hSw; go_simp; try with_reducible rfl
              simp only [List.getElem_toArray, List.getElem_cons_succ, List.getElem_cons_zero, Act.put, List.setIfInBounds_toArray, List.set_cons_zero, List.set_cons_succ]
              refine wpAnyH_take (i := 5) (v := ?v5_44) rfl (by kernel_rfl) (by kernel_rfl) (by kernel_rfl) (fun _ _ _ h => h) (Or.inl ⟨by rfl, ?y5_44⟩) (by assumption) ?r5_44
              case y5_44 => intro w hSw; go_simp; try with_reducible rfl
              simp only [List.getElem_toArray, List.getElem_cons_succ, List.getElem_cons_zero, Act.put, List.setIfInBounds_toArray, List.set_cons_zero, List.set_cons_succ]
              refine wpAnyH_take (i := 6) (v := ?v6_45) rfl (by kernel_rfl) (by kernel_rfl) (by kernel_rfl) (fun _ _ _ h => h) (Or.inl ⟨by rfl, ?y6_45⟩) (by assumption) ?r6_45
              case y6_45 => intro w hSw; go_simp; try with_reducible rfl
              simp only [List.getElem_toArray, List.getElem_cons_succ, List.getElem_cons_zero, Act.put, List.setIfInBounds_toArray, List.set_cons_zero, List.set_cons_succ]
              refine wpAnyH_ready (rs := [3]) (by kernel_rfl) (by simp) ?_
              refine AllReadyH.cons rfl (fun K hK => ?_) AllReadyH.nil
              go_simp
              refine (clockText_any t.1 _).mono ?_
              rintro e w2 ⟨rfl, hb2⟩
              have hh2 : Below w1.heap.size w1 w2 := ((Below.refl w1.heap.size w1).drew).trans hb2
              refine hK.out _ _ (HSX.out.1.below hh2) (fun hH3 => ?_)
              clear hK K hb2
              refine wpAnyH_take (i := 4) (v := ?v4_46) rfl (by kernel_rfl) (by kernel_rfl) (by kernel_rfl) (fun _ _ _ h => h) (Or.inl ⟨by rfl, ?y4_46⟩) (by assumption) ?r4_46
              case y4_46 => intro w hSw; go_simp; try with_reducible rfl
              simp only [List.getElem_toArray, List.getElem_cons_succ, List.getElem_cons_zero, Act.put, List.setIfInBounds_toArray, List.set_cons_zero, List.set_cons_succ]
              refine wpAnyH_ready (rs := [7]) (by kernel_rfl) (by simp) ?_
              refine AllReadyH.cons rfl (fun K hK => ?_) AllReadyH.nil
              go_simp
              refine (clockText_any t.2 _).mono ?_
              rintro e w3 ⟨rfl, hb3⟩
              have hh3 : Below w1.heap.size w1 w3 := hh2.trans (hb3.mono hh2.size)
              refine hK.out _ _ (HSX.out.1.below hh3) (fun hH7 => ?_)
              clear hK K hb3
              refine wpAnyH_take (i := 8) (v := ?v8_47) rfl (by kernel_rfl) (by kernel_rfl) (by kernel_rfl) (fun _ _ _ h => h) (Or.inl ⟨by rfl, ?y8_47⟩) (by assumption) ?r8_47
              case y8_47 => intro w hSw; go_simp; try with_reducible rfl
              simp only [List.getElem_toArray, List.getElem_cons_succ, List.getElem_cons_zero, Act.put, List.setIfInBounds_toArray, List.set_cons_zero, List.set_cons_succ]
              refine wpAnyH_ready (rs := [9]) (by kernel_rfl) (by simp) ?_
              refine AllReadyH.cons rfl (fun K hK => ?_) AllReadyH.nil
              go_simp
              obtain ⟨w4, hw4⟩ : ∃ W : World, W = w3.alloc (.cells #[.string (⟨(cb t.1).toArray⟩ ++ ⟨#[45]⟩ ++ ⟨(cb t.2).toArray⟩)] 9) := ⟨_, rfl⟩
              have hh4 : Below w1.heap.size w1 w4 := by rw [hw4]; exact hh3.alloc hh3.size _
              have c4 : w4.cell? ⟨w3.heap.size, 0, none⟩ = some (.string (⟨(cb t.1).toArray⟩ ++ ⟨#[45]⟩ ++ ⟨(cb t.2).toArray⟩)) := by rw [hw4]; simp
              rw [← hw4]
              clear hw4
              refine hK.out _ _ (HSX.out.1.below hh4) (fun hH9 => ?_)
              clear hK K
              refine wpAnyH_ready (rs := [10]) (by kernel_rfl) (by simp) ?_
              refine AllReadyH.cons rfl (fun K hK => ?_) AllReadyH.nil
              refine app65 w4 (by rfl) _ _ (by rfl) W4.heap.size u8 k _ (by rfl) (own_below HR1.out.1 hh4 (Nat.le_refl _)) w3.heap.size 1 (.string (⟨(cb t.1).toArray⟩ ++ ⟨#[45]⟩ ++ ⟨(cb t.2).toArray⟩)) (by rfl) c4 rfl (by omega) (Nat.le_trans HR1.out.2.1.size hh4.size) ?_
              intro g' cap' w5 hown5 hgrow5 hat5 hlt5
              simp only [List.getElem_toArray, List.getElem_cons_succ, List.getElem_cons_zero, Act.put, List.setIfInBounds_toArray, List.set_cons_zero, List.set_cons_succ]
              have hS5 : SX W4 wr.heap.size t w5 := (HSX.out.1.below hh4).grown (own_below HR1.out.1 hh4 (Nat.le_refl _)) hgrow5 HSX.out.2
              refine hK.out _ _ hS5 (fun hH10 => ?_)
              clear hK K
              refine wpAnyH_take (i := 11) (v := ?v11_48) rfl (by kernel_rfl) (by kernel_rfl) (by kernel_rfl) (fun _ _ _ h => h) (Or.inl ⟨by rfl, ?y11_48⟩) (by assumption) ?r11_48
              case y11_48 => intro w hSw; go_simp; try with_reducible rfl
              simp only [List.getElem_toArray, List.getElem_cons_succ, List.getElem_cons_zero, Act.put, List.setIfInBounds_toArray, List.set_cons_zero, List.set_cons_succ]
              refine wpAnyH_done (by kernel_rfl) ?_ _
              have HN5 : Hid (w5.ownsRow W4.heap.size 9 1 (.slice (some ⟨g', 0, none⟩) (k + 1) cap') (k + 1) (((ts.take (k + 1)).map ckt).map Value.string) ∧ Below W4.heap.size W4 w5) := by
                refine ⟨?_, hS5.1⟩
                rw [List.take_add_one, htk]
                simp only [Option.toList_some, List.map_append, List.map_cons, List.map_nil]
                exact hown5
              clear hown5 hS5 hgrow5 hat5 hlt5 c4 hh4 hh3 hh2 hH10 hH9 hH7 hH3 hHeld x0 x1
              have hwk : IntKind.i64.wrap ((k : Int) + 1) = (k : Int) + 1 := by rw [IntKind.wrap_i64]; omega
              go_wp2_with fail
              go_roundw
              case rel => exact ⟨k + 1, by simp, by omega, HN5⟩
              case measure => simp [intOf]; omega
            · obtain rfl : k = ts.length := by omega
              have hrow := HR.out.1
              rw [List.take_length, ← List.length_map (f := ckt)] at hrow
              have hbl := HR.out.2
              have hi4 := isBuilder_below HS4.out.1 hbl
              have cw4 := writeSet_none w.heap.size w.heap.size W4.heap.size l4 u8 (ts.map ckt) wr hi4 hrow (by have := hbl.size; have := HS4.out.2.1.size; omega) (by have := HS4.out.2.2; omega) (by have := (HOK4.out).j; omega) (by have := (HOK4.out).n; omega)
              have HV4 : Hid (Below w.heap.size w wr) := HS4.out.2.1.trans (hbl.mono HS4.out.2.1.size)
              clear hrow hbl hi4
              go_wp2_with fail
              refine cw4.mono ?_
              rintro e W5 ⟨rfl, hI5, hB5⟩
              obtain ⟨l5, hl5⟩ : ∃ l, l = l4 ++ sg4 ts := ⟨_, rfl⟩
              have HS5 : Hid (Lib.IsBuilder 58 5 w.heap.size w.heap.size (Lib.byteCells l5) W5 ∧ Below w.heap.size w W5 ∧ l5.length ≤ 20000000009) := by
                refine ⟨?_, HV4.out.trans hB5, ?_⟩
                · rw [hl5]; exact hI5
                · rw [hl5, List.length_append]
                  have h1 := HS4.out.2.2
                  have h2 := (HOK4.out).s
                  have h3 : (sg4 ts).length ≤ 4000000001 := h2
                  omega
              have HL5 : Hid (l5 = l4 ++ (if x.testBit 4 then sg4 ts else [])) := by
                show l5 = _
                rw [t4, if_pos rfl]; exact hl5
              clear hI5 hB5 hl5 cw4
              have h59 := writeByte_any w.heap.size w.heap.size (Lib.byteCells l5) 59 W5 HS5.out.1 (by rw [Lib.byteCells_length]; have := HS5.out.2.2; omega) HS5.out.2.1.size
              have h59' : Calls Tryf.prog 30 #[.pointer (some ⟨w.heap.size, 0, none⟩), .int .u8 59] W5 fun e w' => e = .returned .nilIface ∧ Lib.BuilderAt 58 5 w.heap.size w.heap.size (.pointer (some ⟨w.heap.size, 0, none⟩)) (Lib.byteCells l5 ++ [.int .u8 59]) w' ∧ Below w.heap.size W5 w' ∧ KT w.heap.size W5 w' := h59
              clear h59
              go_wp2_with fail
              refine h59'.mono ?_
              rintro e W6 ⟨rfl, hI6, hB6, _⟩
              have hI6' : Lib.IsBuilder 58 5 w.heap.size w.heap.size (Lib.byteCells (l5 ++ [59])) W6 := .inr (by
                have e : Lib.byteCells (l5 ++ [59]) = Lib.byteCells l5 ++ [.int .u8 59] := by simp [Lib.byteCells]
                rw [e]; exact hI6)
              have hst := Tryf.Builder_String_any w.heap.size w.heap.size (l5 ++ [59]) W6 hI6' (Nat.le_trans HS5.out.2.1.size hB6.size)
              have HB6 : Hid (Below w.heap.size w W6) := HS5.out.2.1.trans hB6
              clear h59' hI6 hI6' hB6
              go_wp2_with fail
              refine hst.mono ?_
              rintro e W7 ⟨rfl, hB7⟩
              go_wp2_with fail
              go_ret
              refine ⟨?_, HB6.out.trans hB7⟩
              have hl : l5 ++ [59] = itemL mo s wd ts x := by
                rw [HL5.out, HL4.out, HL3.out, HL2.out, HL1.out, HL0.out]
                rfl
              rw [hl]
              rfl
      · have hh2 := has_any x hx 2 (by omega) W2
        rw [t2] at hh2
        go_wp2_with fail
        refine hh2.mono ?_
        rintro e w' ⟨rfl, hw⟩
        subst w'
        clear hh2
        have HOK2 : Hid (Ok [121, 101, 97, 114] ((yruns s).map (txt yN))) := ok2 s hs [121, 101, 97, 114] (by simp)
        have q2 := HC.out.below HS2.out.2.1
        have r2 := q2.c2
        have r12 := q2.d12
        clear q2
        have ct2 := texts_year (F := F) s hs W2 (HE.out.below HS2.out.2.1)
        go_wp2_with fail
        refine ct2.mono ?_
        rintro e V2 ⟨v2, rfl, hr2, hbv2⟩
        clear ct2
        clear r2 r12
        rw [← List.length_map (f := txt yN)] at hr2
        have hi2 := isBuilder_below HS2.out.1 hbv2
        have cw2 := writeSet_word w.heap.size w.heap.size W2.heap.size l2 ⟨#[121, 101, 97, 114]⟩ v2 ((yruns s).map (txt yN)) V2 hi2 hr2 (by have := hbv2.size; have := HS2.out.2.1.size; omega) (by decide +kernel) (by decide) (by decide) (by have := HS2.out.2.2; omega) (by have := (HOK2.out).j; omega) (by have := (HOK2.out).n; omega)
        have hbB2 : Below w.heap.size w V2 := HS2.out.2.1.trans (hbv2.mono HS2.out.2.1.size)
        have HV2 : Hid (Below w.heap.size w V2) := hbB2
        clear hbB2 hr2 hi2 hbv2
        go_wp2_with fail
        refine cw2.mono ?_
        rintro e W3 ⟨rfl, hI3, hB3⟩
        obtain ⟨l3, hl3⟩ : ∃ l, l = l2 ++ sg2 s := ⟨_, rfl⟩
        have HS3 : Hid (Lib.IsBuilder 58 5 w.heap.size w.heap.size (Lib.byteCells l3) W3 ∧ Below w.heap.size w W3 ∧ l3.length ≤ 12000000007) := by
          refine ⟨?_, HV2.out.trans hB3, ?_⟩
          · rw [hl3]; exact hI3
          · rw [hl3, List.length_append]
            have h1 := HS2.out.2.2
            have h2 := (HOK2.out).s
            have h3 : (sg2 s).length ≤ 4000000001 := h2
            omega
        have HL3 : Hid (l3 = l2 ++ (if x.testBit 2 then sg2 s else [])) := by
          show l3 = _
          rw [t2, if_pos rfl]; exact hl3
        clear hI3 hB3 hl3 cw2
        cases t3 : x.testBit 3
        · have hh3 := has_any x hx 3 (by omega) W3
          rw [t3] at hh3
          go_wp2_with fail
          refine hh3.mono ?_
          rintro e w' ⟨rfl, hw⟩
          subst w'
          clear hh3
          obtain ⟨W4, hW4⟩ : ∃ W, W = W3 := ⟨_, rfl⟩
          obtain ⟨l4, hl4⟩ : ∃ l, l = l3 := ⟨_, rfl⟩
          have HS4 : Hid (Lib.IsBuilder 58 5 w.heap.size w.heap.size (Lib.byteCells l4) W4 ∧ Below w.heap.size w W4 ∧ l4.length ≤ 16000000008) := by
            rw [hW4, hl4]
            exact ⟨HS3.out.1, HS3.out.2.1, by have := HS3.out.2.2; omega⟩
          have HL4 : Hid (l4 = l3 ++ (if x.testBit 3 then sg3 wd else [])) := by
            show l4 = _
            rw [t3, hl4]; simp
          rw [← hW4]
          clear hW4 hl4
          cases t4 : x.testBit 4
          · have hh4 := has_any x hx 4 (by omega) W4
            rw [t4] at hh4
            go_wp2_with fail
            refine hh4.mono ?_
            rintro e w' ⟨rfl, hw⟩
            subst w'
            clear hh4
            obtain ⟨W5, hW5⟩ : ∃ W, W = W4 := ⟨_, rfl⟩
            obtain ⟨l5, hl5⟩ : ∃ l, l = l4 := ⟨_, rfl⟩
            have HS5 : Hid (Lib.IsBuilder 58 5 w.heap.size w.heap.size (Lib.byteCells l5) W5 ∧ Below w.heap.size w W5 ∧ l5.length ≤ 20000000009) := by
              rw [hW5, hl5]
              exact ⟨HS4.out.1, HS4.out.2.1, by have := HS4.out.2.2; omega⟩
            have HL5 : Hid (l5 = l4 ++ (if x.testBit 4 then sg4 ts else [])) := by
              show l5 = _
              rw [t4, hl5]; simp
            rw [← hW5]
            clear hW5 hl5
            have h59 := writeByte_any w.heap.size w.heap.size (Lib.byteCells l5) 59 W5 HS5.out.1 (by rw [Lib.byteCells_length]; have := HS5.out.2.2; omega) HS5.out.2.1.size
            have h59' : Calls Tryf.prog 30 #[.pointer (some ⟨w.heap.size, 0, none⟩), .int .u8 59] W5 fun e w' => e = .returned .nilIface ∧ Lib.BuilderAt 58 5 w.heap.size w.heap.size (.pointer (some ⟨w.heap.size, 0, none⟩)) (Lib.byteCells l5 ++ [.int .u8 59]) w' ∧ Below w.heap.size W5 w' ∧ KT w.heap.size W5 w' := h59
            clear h59
            go_wp2_with fail
            refine h59'.mono ?_
            rintro e W6 ⟨rfl, hI6, hB6, _⟩
            have hI6' : Lib.IsBuilder 58 5 w.heap.size w.heap.size (Lib.byteCells (l5 ++ [59])) W6 := .inr (by
              have e : Lib.byteCells (l5 ++ [59]) = Lib.byteCells l5 ++ [.int .u8 59] := by simp [Lib.byteCells]
              rw [e]; exact hI6)
            have hst := Tryf.Builder_String_any w.heap.size w.heap.size (l5 ++ [59]) W6 hI6' (Nat.le_trans HS5.out.2.1.size hB6.size)
            have HB6 : Hid (Below w.heap.size w W6) := HS5.out.2.1.trans hB6
            clear h59' hI6 hI6' hB6
            go_wp2_with fail
            refine hst.mono ?_
            rintro e W7 ⟨rfl, hB7⟩
            go_wp2_with fail
            go_ret
            refine ⟨?_, HB6.out.trans hB7⟩
            have hl : l5 ++ [59] = itemL mo s wd ts x := by
              rw [HL5.out, HL4.out, HL3.out, HL2.out, HL1.out, HL0.out]
              rfl
            rw [hl]
            rfl
          · have hh4 := has_any x hx 4 (by omega) W4
            rw [t4] at hh4
            go_wp2_with fail
            refine hh4.mono ?_
            rintro e w' ⟨rfl, hw⟩
            subst w'
            clear hh4
            have HOK4 : Hid (Ok [] (ts.map ckt)) := ok4 ts hts
            obtain ⟨ao, cap, htv, _, htc⟩ := HC.out.tm
            have r4 := (HC.out.below HS4.out.2.1).c4
            rw [htv] at r4
            have HTC : Hid (∀ (j : Nat) (t : Int × Int), ts[j]? = some t → ∃ g, ao = some ⟨g, 0, none⟩ ∧ w.cell? ⟨g, j * 2, none⟩ = some (.int .i64 t.1) ∧ w.cell? ⟨g, j * 2 + 1, none⟩ = some (.int .i64 t.2)) := htc
            clear htc htv
            go_wp2_with fail
            clear r4
            go_loopw [8, 60] (fun v i wr => ∃ k : Nat, i = .int .i64 (k : Int) ∧ k ≤ ts.length ∧ Hid (wr.ownsRow W4.heap.size 9 1 v k (((ts.take k).map ckt).map Value.string) ∧ Below W4.heap.size W4 wr)) (fun _ i _ => ts.length - (intOf i).toNat)
            case atStart => exact ⟨0, rfl, by omega, World.ownsRow_nil _ _ _ _, Below.refl _ _⟩
            case round =>
            obtain ⟨k, rfl, hk, HR⟩ := hrel
            by_cases hlt : k < ts.length
            · have hlt1 : decide ((k : Int) < (ts.length : Int)) = true := by simp; omega
              obtain ⟨g, rfl, hg1, hg2⟩ := HTC.out k ts[k] (List.getElem?_eq_getElem hlt)
              have hbw : Below w.heap.size w wr := HS4.out.2.1.trans (HR.out.2.mono HS4.out.2.1.size)
              have k1 := cell_keep hbw hg1
              have k2 := cell_keep hbw hg2
              have hki : (k : Int) < (ts.length : Int) := by omega
              have hg0 : g < wr.heap.size := World.block_lt_of_cell? wr ⟨g, k * 2, none⟩ k1
              have hgn : ¬ g = wr.heap.size := by omega
              have htk : ts[k]? = some ts[k] := List.getElem?_eq_getElem hlt
              generalize ts[k] = t at *
              go_wp2_with fail
              obtain ⟨w1, hw1⟩ : ∃ W : World, W = wr.alloc (.cells #[.int .i64 t.1, .int .i64 t.2] 47) := ⟨_, rfl⟩
              have hb47 : w1.heap[wr.heap.size]? = some (.cells #[.int .i64 t.1, .int .i64 t.2] 47) := by rw [hw1]; exact World.alloc_heap_new wr _
              have e0 : w1.cell? ⟨wr.heap.size, 0, none⟩ = some (.int .i64 t.1) := by rw [hw1]; simp
              have e1 : w1.cell? ⟨wr.heap.size, 1, none⟩ = some (.int .i64 t.2) := by rw [hw1]; simp
              have z1 : w1.heap.size = wr.heap.size + 1 := by rw [hw1]; simp
              have x0 : ∀ W, SX W4 wr.heap.size t W → W.cell? ⟨wr.heap.size, 0, none⟩ = some (.int .i64 t.1) := fun W hb => hb.2.1
              have x1 : ∀ W, SX W4 wr.heap.size t W → W.cell? ⟨wr.heap.size, 1, none⟩ = some (.int .i64 t.2) := fun W hb => hb.2.2
              have HR1 : Hid (w1.ownsRow W4.heap.size 9 1 u8 k (((ts.take k).map ckt).map Value.string) ∧ Below W4.heap.size W4 w1 ∧ wr.heap.size ≤ w1.heap.size) := by
                refine ⟨?_, ?_, by omega⟩
                · rw [hw1]; exact HR.out.1.alloc _
                · rw [hw1]; exact HR.out.2.alloc HR.out.2.size _
              have hnr : u8.ownBlock ≠ some wr.heap.size := by
                rcases HR1.out.1.2 with ⟨h, _⟩ | ⟨g', cap', cur, h, _, hg', _⟩
                · rw [h]; simp [Value.ownBlock]
                · intro e
                  rw [h] at e
                  have : g' = wr.heap.size := by simpa [Value.ownBlock] using e
                  rw [this, hb47] at hg'
                  cases hg'
              have HSX : Hid (SX W4 wr.heap.size t w1 ∧ u8.ownBlock ≠ some wr.heap.size) := ⟨⟨HR1.out.2.1, e0, e1⟩, hnr⟩
              rw [← hw1]
              clear hw1 e0 e1 k1 k2 hg0 hgn hg1 hg2 z1 hb47 hnr
              have cbl : ∀ m, (cb m).length = 4 := fun m => rfl
              refine wp_region_held_drew (S := fun w' => SX W4 wr.heap.size t w') (by kernel_rfl) (HSX.out.1.below (Below.refl _ _).drew) (fun hHeld => ?_)
              refine wpAnyH_take (i := 0) (v := ?v0_49) rfl (by kernel_rfl) (by kernel_rfl) (by kernel_rfl) (fun _ _ _ h => h) (Or.inl ⟨by rfl, ?y0_49⟩) (by assumption) ?r0_49
              case y0_49 => intro w hSw; go_simp; try with_reducible rfl
              simp only [List.getElem_toArray, List.getElem_cons_succ, List.getElem_cons_zero, Act.put, List.setIfInBounds_toArray, List.set_cons_zero, List.set_cons_succ]
              refine wpAnyH_take (i := 1) (v := ?v1_50) rfl (by kernel_rfl) (by kernel_rfl) (by kernel_rfl) (fun _ _ _ h => h) (Or.inl ⟨by rfl, ?y1_50⟩) (by assumption) ?r1_50
              case y1_50 => intro w hSw; go_simp; try with_reducible rfl
              simp only [List.getElem_toArray, List.getElem_cons_succ, List.getElem_cons_zero, Act.put, List.setIfInBounds_toArray, List.set_cons_zero, List.set_cons_succ]
              refine wpAnyH_take (i := 2) (v := ?v2_51) rfl (by kernel_rfl) (by kernel_rfl) (by kernel_rfl) (fun _ _ _ h => h) (Or.inl ⟨by rfl, ?y2_51⟩) (by assumption) ?r2_51
              case y2_51 => intro w hSw; go_simp; try with_reducible rfl
              simp only [List.getElem_toArray, List.getElem_cons_succ, List.getElem_cons_zero, Act.put, List.setIfInBounds_toArray, List.set_cons_zero, List.set_cons_succ]
              refine wpAnyH_take (i := 5) (v := ?v5_52) rfl (by kernel_rfl) (by kernel_rfl) (by kernel_rfl) (fun _ _ _ h => h) (Or.inl ⟨by rfl, ?y5_52⟩) (by assumption) ?r5_52
              case y5_52 => intro w hSw; go_simp; try with_reducible rfl
              simp only [List.getElem_toArray, List.getElem_cons_succ, List.getElem_cons_zero, Act.put, List.setIfInBounds_toArray, List.set_cons_zero, List.set_cons_succ]
              refine wpAnyH_take (i := 6) (v := ?v6_53) rfl (by kernel_rfl) (by kernel_rfl) (by kernel_rfl) (fun _ _ _ h => h) (Or.inl ⟨by rfl, ?y6_53⟩) (by assumption) ?r6_53
              case y6_53 => intro w hSw; go_simp; try with_reducible rfl
              simp only [List.getElem_toArray, List.getElem_cons_succ, List.getElem_cons_zero, Act.put, List.setIfInBounds_toArray, List.set_cons_zero, List.set_cons_succ]
              refine wpAnyH_ready (rs := [3]) (by kernel_rfl) (by simp) ?_
              refine AllReadyH.cons rfl (fun K hK => ?_) AllReadyH.nil
              go_simp
              refine (clockText_any t.1 _).mono ?_
              rintro e w2 ⟨rfl, hb2⟩
              have hh2 : Below w1.heap.size w1 w2 := ((Below.refl w1.heap.size w1).drew).trans hb2
              refine hK.out _ _ (HSX.out.1.below hh2) (fun hH3 => ?_)
              clear hK K hb2
              refine wpAnyH_take (i := 4) (v := ?v4_54) rfl (by kernel_rfl) (by kernel_rfl) (by kernel_rfl) (fun _ _ _ h => h) (Or.inl ⟨by rfl, ?y4_54⟩) (by assumption) ?r4_54
              case y4_54 => intro w hSw; go_simp; try with_reducible rfl
              simp only [List.getElem_toArray, List.getElem_cons_succ, List.getElem_cons_zero, Act.put, List.setIfInBounds_toArray, List.set_cons_zero, List.set_cons_succ]
              refine wpAnyH_ready (rs := [7]) (by kernel_rfl) (by simp) ?_
              refine AllReadyH.cons rfl (fun K hK => ?_) AllReadyH.nil
              go_simp
              refine (clockText_any t.2 _).mono ?_
              rintro e w3 ⟨rfl, hb3⟩
              have hh3 : Below w1.heap.size w1 w3 := hh2.trans (hb3.mono hh2.size)
              refine hK.out _ _ (HSX.out.1.below hh3) (fun hH7 => ?_)
              clear hK K hb3
              refine wpAnyH_take (i := 8) (v := ?v8_55) rfl (by kernel_rfl) (by kernel_rfl) (by kernel_rfl) (fun _ _ _ h => h) (Or.inl ⟨by rfl, ?y8_55⟩) (by assumption) ?r8_55
              case y8_55 => intro w hSw; go_simp; try with_reducible rfl
              simp only [List.getElem_toArray, List.getElem_cons_succ, List.getElem_cons_zero, Act.put, List.setIfInBounds_toArray, List.set_cons_zero, List.set_cons_succ]
              refine wpAnyH_ready (rs := [9]) (by kernel_rfl) (by simp) ?_
              refine AllReadyH.cons rfl (fun K hK => ?_) AllReadyH.nil
              go_simp
              obtain ⟨w4, hw4⟩ : ∃ W : World, W = w3.alloc (.cells #[.string (⟨(cb t.1).toArray⟩ ++ ⟨#[45]⟩ ++ ⟨(cb t.2).toArray⟩)] 9) := ⟨_, rfl⟩
              have hh4 : Below w1.heap.size w1 w4 := by rw [hw4]; exact hh3.alloc hh3.size _
              have c4 : w4.cell? ⟨w3.heap.size, 0, none⟩ = some (.string (⟨(cb t.1).toArray⟩ ++ ⟨#[45]⟩ ++ ⟨(cb t.2).toArray⟩)) := by rw [hw4]; simp
              rw [← hw4]
              clear hw4
              refine hK.out _ _ (HSX.out.1.below hh4) (fun hH9 => ?_)
              clear hK K
              refine wpAnyH_ready (rs := [10]) (by kernel_rfl) (by simp) ?_
              refine AllReadyH.cons rfl (fun K hK => ?_) AllReadyH.nil
              refine app65 w4 (by rfl) _ _ (by rfl) W4.heap.size u8 k _ (by rfl) (own_below HR1.out.1 hh4 (Nat.le_refl _)) w3.heap.size 1 (.string (⟨(cb t.1).toArray⟩ ++ ⟨#[45]⟩ ++ ⟨(cb t.2).toArray⟩)) (by rfl) c4 rfl (by omega) (Nat.le_trans HR1.out.2.1.size hh4.size) ?_
              intro g' cap' w5 hown5 hgrow5 hat5 hlt5
              simp only [List.getElem_toArray, List.getElem_cons_succ, List.getElem_cons_zero, Act.put, List.setIfInBounds_toArray, List.set_cons_zero, List.set_cons_succ]
              have hS5 : SX W4 wr.heap.size t w5 := (HSX.out.1.below hh4).grown (own_below HR1.out.1 hh4 (Nat.le_refl _)) hgrow5 HSX.out.2
              refine hK.out _ _ hS5 (fun hH10 => ?_)
              clear hK K
              refine wpAnyH_take (i := 11) (v := ?v11_56) rfl (by kernel_rfl) (by kernel_rfl) (by kernel_rfl) (fun _ _ _ h => h) (Or.inl ⟨by rfl, ?y11_56⟩) (by assumption) ?r11_56
              case y11_56 => intro w hSw; go_simp; try with_reducible rfl
              simp only [List.getElem_toArray, List.getElem_cons_succ, List.getElem_cons_zero, Act.put, List.setIfInBounds_toArray, List.set_cons_zero, List.set_cons_succ]
              refine wpAnyH_done (by kernel_rfl) ?_ _
              have HN5 : Hid (w5.ownsRow W4.heap.size 9 1 (.slice (some ⟨g', 0, none⟩) (k + 1) cap') (k + 1) (((ts.take (k + 1)).map ckt).map Value.string) ∧ Below W4.heap.size W4 w5) := by
                refine ⟨?_, hS5.1⟩
                rw [List.take_add_one, htk]
                simp only [Option.toList_some, List.map_append, List.map_cons, List.map_nil]
                exact hown5
              clear hown5 hS5 hgrow5 hat5 hlt5 c4 hh4 hh3 hh2 hH10 hH9 hH7 hH3 hHeld x0 x1
              have hwk : IntKind.i64.wrap ((k : Int) + 1) = (k : Int) + 1 := by rw [IntKind.wrap_i64]; omega
              go_wp2_with fail
              go_roundw
              case rel => exact ⟨k + 1, by simp, by omega, HN5⟩
              case measure => simp [intOf]; omega
            · obtain rfl : k = ts.length := by omega
              have hrow := HR.out.1
              rw [List.take_length, ← List.length_map (f := ckt)] at hrow
              have hbl := HR.out.2
              have hi4 := isBuilder_below HS4.out.1 hbl
              have cw4 := writeSet_none w.heap.size w.heap.size W4.heap.size l4 u8 (ts.map ckt) wr hi4 hrow (by have := hbl.size; have := HS4.out.2.1.size; omega) (by have := HS4.out.2.2; omega) (by have := (HOK4.out).j; omega) (by have := (HOK4.out).n; omega)
              have HV4 : Hid (Below w.heap.size w wr) := HS4.out.2.1.trans (hbl.mono HS4.out.2.1.size)
              clear hrow hbl hi4
              go_wp2_with fail
              refine cw4.mono ?_
              rintro e W5 ⟨rfl, hI5, hB5⟩
              obtain ⟨l5, hl5⟩ : ∃ l, l = l4 ++ sg4 ts := ⟨_, rfl⟩
              have HS5 : Hid (Lib.IsBuilder 58 5 w.heap.size w.heap.size (Lib.byteCells l5) W5 ∧ Below w.heap.size w W5 ∧ l5.length ≤ 20000000009) := by
                refine ⟨?_, HV4.out.trans hB5, ?_⟩
                · rw [hl5]; exact hI5
                · rw [hl5, List.length_append]
                  have h1 := HS4.out.2.2
                  have h2 := (HOK4.out).s
                  have h3 : (sg4 ts).length ≤ 4000000001 := h2
                  omega
              have HL5 : Hid (l5 = l4 ++ (if x.testBit 4 then sg4 ts else [])) := by
                show l5 = _
                rw [t4, if_pos rfl]; exact hl5
              clear hI5 hB5 hl5 cw4
              have h59 := writeByte_any w.heap.size w.heap.size (Lib.byteCells l5) 59 W5 HS5.out.1 (by rw [Lib.byteCells_length]; have := HS5.out.2.2; omega) HS5.out.2.1.size
              have h59' : Calls Tryf.prog 30 #[.pointer (some ⟨w.heap.size, 0, none⟩), .int .u8 59] W5 fun e w' => e = .returned .nilIface ∧ Lib.BuilderAt 58 5 w.heap.size w.heap.size (.pointer (some ⟨w.heap.size, 0, none⟩)) (Lib.byteCells l5 ++ [.int .u8 59]) w' ∧ Below w.heap.size W5 w' ∧ KT w.heap.size W5 w' := h59
              clear h59
              go_wp2_with fail
              refine h59'.mono ?_
              rintro e W6 ⟨rfl, hI6, hB6, _⟩
              have hI6' : Lib.IsBuilder 58 5 w.heap.size w.heap.size (Lib.byteCells (l5 ++ [59])) W6 := .inr (by
                have e : Lib.byteCells (l5 ++ [59]) = Lib.byteCells l5 ++ [.int .u8 59] := by simp [Lib.byteCells]
                rw [e]; exact hI6)
              have hst := Tryf.Builder_String_any w.heap.size w.heap.size (l5 ++ [59]) W6 hI6' (Nat.le_trans HS5.out.2.1.size hB6.size)
              have HB6 : Hid (Below w.heap.size w W6) := HS5.out.2.1.trans hB6
              clear h59' hI6 hI6' hB6
              go_wp2_with fail
              refine hst.mono ?_
              rintro e W7 ⟨rfl, hB7⟩
              go_wp2_with fail
              go_ret
              refine ⟨?_, HB6.out.trans hB7⟩
              have hl : l5 ++ [59] = itemL mo s wd ts x := by
                rw [HL5.out, HL4.out, HL3.out, HL2.out, HL1.out, HL0.out]
                rfl
              rw [hl]
              rfl
        · have hh3 := has_any x hx 3 (by omega) W3
          rw [t3] at hh3
          go_wp2_with fail
          refine hh3.mono ?_
          rintro e w' ⟨rfl, hw⟩
          subst w'
          clear hh3
          have HOK3 : Hid (Ok [] ((runsOf wd).map (txt wkN))) := ok3 wd
          have q3 := HC.out.below HS3.out.2.1
          have r3 := q3.c3
          clear q3
          have ct3 := texts_day (F := F) wd hwd W3 (HE.out.below HS3.out.2.1)
          go_wp2_with fail
          refine ct3.mono ?_
          rintro e V3 ⟨v3, rfl, hr3, hbv3⟩
          clear ct3
          clear r3
          rw [← List.length_map (f := txt wkN)] at hr3
          have hi3 := isBuilder_below HS3.out.1 hbv3
          have cw3 := writeSet_none w.heap.size w.heap.size W3.heap.size l3 v3 ((runsOf wd).map (txt wkN)) V3 hi3 hr3 (by have := hbv3.size; have := HS3.out.2.1.size; omega) (by have := HS3.out.2.2; omega) (by have := (HOK3.out).j; omega) (by have := (HOK3.out).n; omega)
          have hbB3 : Below w.heap.size w V3 := HS3.out.2.1.trans (hbv3.mono HS3.out.2.1.size)
          have HV3 : Hid (Below w.heap.size w V3) := hbB3
          clear hbB3 hr3 hi3 hbv3
          go_wp2_with fail
          refine cw3.mono ?_
          rintro e W4 ⟨rfl, hI4, hB4⟩
          obtain ⟨l4, hl4⟩ : ∃ l, l = l3 ++ sg3 wd := ⟨_, rfl⟩
          have HS4 : Hid (Lib.IsBuilder 58 5 w.heap.size w.heap.size (Lib.byteCells l4) W4 ∧ Below w.heap.size w W4 ∧ l4.length ≤ 16000000008) := by
            refine ⟨?_, HV3.out.trans hB4, ?_⟩
            · rw [hl4]; exact hI4
            · rw [hl4, List.length_append]
              have h1 := HS3.out.2.2
              have h2 := (HOK3.out).s
              have h3 : (sg3 wd).length ≤ 4000000001 := h2
              omega
          have HL4 : Hid (l4 = l3 ++ (if x.testBit 3 then sg3 wd else [])) := by
            show l4 = _
            rw [t3, if_pos rfl]; exact hl4
          clear hI4 hB4 hl4 cw3
          cases t4 : x.testBit 4
          · have hh4 := has_any x hx 4 (by omega) W4
            rw [t4] at hh4
            go_wp2_with fail
            refine hh4.mono ?_
            rintro e w' ⟨rfl, hw⟩
            subst w'
            clear hh4
            obtain ⟨W5, hW5⟩ : ∃ W, W = W4 := ⟨_, rfl⟩
            obtain ⟨l5, hl5⟩ : ∃ l, l = l4 := ⟨_, rfl⟩
            have HS5 : Hid (Lib.IsBuilder 58 5 w.heap.size w.heap.size (Lib.byteCells l5) W5 ∧ Below w.heap.size w W5 ∧ l5.length ≤ 20000000009) := by
              rw [hW5, hl5]
              exact ⟨HS4.out.1, HS4.out.2.1, by have := HS4.out.2.2; omega⟩
            have HL5 : Hid (l5 = l4 ++ (if x.testBit 4 then sg4 ts else [])) := by
              show l5 = _
              rw [t4, hl5]; simp
            rw [← hW5]
            clear hW5 hl5
            have h59 := writeByte_any w.heap.size w.heap.size (Lib.byteCells l5) 59 W5 HS5.out.1 (by rw [Lib.byteCells_length]; have := HS5.out.2.2; omega) HS5.out.2.1.size
            have h59' : Calls Tryf.prog 30 #[.pointer (some ⟨w.heap.size, 0, none⟩), .int .u8 59] W5 fun e w' => e = .returned .nilIface ∧ Lib.BuilderAt 58 5 w.heap.size w.heap.size (.pointer (some ⟨w.heap.size, 0, none⟩)) (Lib.byteCells l5 ++ [.int .u8 59]) w' ∧ Below w.heap.size W5 w' ∧ KT w.heap.size W5 w' := h59
            clear h59
            go_wp2_with fail
            refine h59'.mono ?_
            rintro e W6 ⟨rfl, hI6, hB6, _⟩
            have hI6' : Lib.IsBuilder 58 5 w.heap.size w.heap.size (Lib.byteCells (l5 ++ [59])) W6 := .inr (by
              have e : Lib.byteCells (l5 ++ [59]) = Lib.byteCells l5 ++ [.int .u8 59] := by simp [Lib.byteCells]
              rw [e]; exact hI6)
            have hst := Tryf.Builder_String_any w.heap.size w.heap.size (l5 ++ [59]) W6 hI6' (Nat.le_trans HS5.out.2.1.size hB6.size)
            have HB6 : Hid (Below w.heap.size w W6) := HS5.out.2.1.trans hB6
            clear h59' hI6 hI6' hB6
            go_wp2_with fail
            refine hst.mono ?_
            rintro e W7 ⟨rfl, hB7⟩
            go_wp2_with fail
            go_ret
            refine ⟨?_, HB6.out.trans hB7⟩
            have hl : l5 ++ [59] = itemL mo s wd ts x := by
              rw [HL5.out, HL4.out, HL3.out, HL2.out, HL1.out, HL0.out]
              rfl
            rw [hl]
            rfl
          · have hh4 := has_any x hx 4 (by omega) W4
            rw [t4] at hh4
            go_wp2_with fail
            refine hh4.mono ?_
            rintro e w' ⟨rfl, hw⟩
            subst w'
            clear hh4
            have HOK4 : Hid (Ok [] (ts.map ckt)) := ok4 ts hts
            obtain ⟨ao, cap, htv, _, htc⟩ := HC.out.tm
            have r4 := (HC.out.below HS4.out.2.1).c4
            rw [htv] at r4
            have HTC : Hid (∀ (j : Nat) (t : Int × Int), ts[j]? = some t → ∃ g, ao = some ⟨g, 0, none⟩ ∧ w.cell? ⟨g, j * 2, none⟩ = some (.int .i64 t.1) ∧ w.cell? ⟨g, j * 2 + 1, none⟩ = some (.int .i64 t.2)) := htc
            clear htc htv
            go_wp2_with fail
            clear r4
            go_loopw [8, 60] (fun v i wr => ∃ k : Nat, i = .int .i64 (k : Int) ∧ k ≤ ts.length ∧ Hid (wr.ownsRow W4.heap.size 9 1 v k (((ts.take k).map ckt).map Value.string) ∧ Below W4.heap.size W4 wr)) (fun _ i _ => ts.length - (intOf i).toNat)
            case atStart => exact ⟨0, rfl, by omega, World.ownsRow_nil _ _ _ _, Below.refl _ _⟩
            case round =>
            obtain ⟨k, rfl, hk, HR⟩ := hrel
            by_cases hlt : k < ts.length
            · have hlt1 : decide ((k : Int) < (ts.length : Int)) = true := by simp; omega
              obtain ⟨g, rfl, hg1, hg2⟩ := HTC.out k ts[k] (List.getElem?_eq_getElem hlt)
              have hbw : Below w.heap.size w wr := HS4.out.2.1.trans (HR.out.2.mono HS4.out.2.1.size)
              have k1 := cell_keep hbw hg1
              have k2 := cell_keep hbw hg2
              have hki : (k : Int) < (ts.length : Int) := by omega
              have hg0 : g < wr.heap.size := World.block_lt_of_cell? wr ⟨g, k * 2, none⟩ k1
              have hgn : ¬ g = wr.heap.size := by omega
              have htk : ts[k]? = some ts[k] := List.getElem?_eq_getElem hlt
              generalize ts[k] = t at *
              go_wp2_with fail
              obtain ⟨w1, hw1⟩ : ∃ W : World, W = wr.alloc (.cells #[.int .i64 t.1, .int .i64 t.2] 47) := ⟨_, rfl⟩
              have hb47 : w1.heap[wr.heap.size]? = some (.cells #[.int .i64 t.1, .int .i64 t.2] 47) := by rw [hw1]; exact World.alloc_heap_new wr _
              have e0 : w1.cell? ⟨wr.heap.size, 0, none⟩ = some (.int .i64 t.1) := by rw [hw1]; simp
              have e1 : w1.cell? ⟨wr.heap.size, 1, none⟩ = some (.int .i64 t.2) := by rw [hw1]; simp
              have z1 : w1.heap.size = wr.heap.size + 1 := by rw [hw1]; simp
              have x0 : ∀ W, SX W4 wr.heap.size t W → W.cell? ⟨wr.heap.size, 0, none⟩ = some (.int .i64 t.1) := fun W hb => hb.2.1
              have x1 : ∀ W, SX W4 wr.heap.size t W → W.cell? ⟨wr.heap.size, 1, none⟩ = some (.int .i64 t.2) := fun W hb => hb.2.2
              have HR1 : Hid (w1.ownsRow W4.heap.size 9 1 u8 k (((ts.take k).map ckt).map Value.string) ∧ Below W4.heap.size W4 w1 ∧ wr.heap.size ≤ w1.heap.size) := by
                refine ⟨?_, ?_, by omega⟩
                · rw [hw1]; exact HR.out.1.alloc _
                · rw [hw1]; exact HR.out.2.alloc HR.out.2.size _
              have hnr : u8.ownBlock ≠ some wr.heap.size := by
                rcases HR1.out.1.2 with ⟨h, _⟩ | ⟨g', cap', cur, h, _, hg', _⟩
                · rw [h]; simp [Value.ownBlock]
                · intro e
                  rw [h] at e
                  have : g' = wr.heap.size := by simpa [Value.ownBlock] using e
                  rw [this, hb47] at hg'
                  cases hg'
              have HSX : Hid (SX W4 wr.heap.size t w1 ∧ u8.ownBlock ≠ some wr.heap.size) := ⟨⟨HR1.out.2.1, e0, e1⟩, hnr⟩
              rw [← hw1]
              clear hw1 e0 e1 k1 k2 hg0 hgn hg1 hg2 z1 hb47 hnr
              have cbl : ∀ m, (cb m).length = 4 := fun m => rfl
              refine wp_region_held_drew (S := fun w' => SX W4 wr.heap.size t w') (by kernel_rfl) (HSX.out.1.below (Below.refl _ _).drew) (fun hHeld => ?_)
              refine wpAnyH_take (i := 0) (v := ?v0_57) rfl (by kernel_rfl) (by kernel_rfl) (by kernel_rfl) (fun _ _ _ h => h) (Or.inl ⟨by rfl, ?y0_57⟩) (by assumption) ?r0_57
              case y0_57 => intro w hSw; go_simp; try with_reducible rfl
              simp only [List.getElem_toArray, List.getElem_cons_succ, List.getElem_cons_zero, Act.put, List.setIfInBounds_toArray, List.set_cons_zero, List.set_cons_succ]
              refine wpAnyH_take (i := 1) (v := ?v1_58) rfl (by kernel_rfl) (by kernel_rfl) (by kernel_rfl) (fun _ _ _ h => h) (Or.inl ⟨by rfl, ?y1_58⟩) (by assumption) ?r1_58
              case y1_58 => intro w hSw; go_simp; try with_reducible rfl
              simp only [List.getElem_toArray, List.getElem_cons_succ, List.getElem_cons_zero, Act.put, List.setIfInBounds_toArray, List.set_cons_zero, List.set_cons_succ]
              refine wpAnyH_take (i := 2) (v := ?v2_59) rfl (by kernel_rfl) (by kernel_rfl) (by kernel_rfl) (fun _ _ _ h => h) (Or.inl ⟨by rfl, ?y2_59⟩) (by assumption) ?r2_59
              case y2_59 => intro w hSw; go_simp; try with_reducible rfl
              simp only [List.getElem_toArray, List.getElem_cons_succ, List.getElem_cons_zero, Act.put, List.setIfInBounds_toArray, List.set_cons_zero, List.set_cons_succ]
              refine wpAnyH_take (i := 5) (v := ?v5_60) rfl (by kernel_rfl) (by kernel_rfl) (by kernel_rfl) (fun _ _ _ h => h) (Or.inl ⟨by rfl, ?y5_60⟩) (by assumption) ?r5_60
              case y5_60 => intro w hSw; go_simp; try with_reducible rfl
              simp only [List.getElem_toArray, List.getElem_cons_succ, List.getElem_cons_zero, Act.put, List.setIfInBounds_toArray, List.set_cons_zero, List.set_cons_succ]
              refine wpAnyH_take (i := 6) (v := ?v6_61) rfl (by kernel_rfl) (by kernel_rfl) (by kernel_rfl) (fun _ _ _ h => h) (Or.inl ⟨by rfl, ?y6_61⟩) (by assumption) ?r6_61
              case y6_61 => intro w hSw; go_simp; try with_reducible rfl
              simp only [List.getElem_toArray, List.getElem_cons_succ, List.getElem_cons_zero, Act.put, List.setIfInBounds_toArray, List.set_cons_zero, List.set_cons_succ]
              refine wpAnyH_ready (rs := [3]) (by kernel_rfl) (by simp) ?_
              refine AllReadyH.cons rfl (fun K hK => ?_) AllReadyH.nil
              go_simp
              refine (clockText_any t.1 _).mono ?_
              rintro e w2 ⟨rfl, hb2⟩
              have hh2 : Below w1.heap.size w1 w2 := ((Below.refl w1.heap.size w1).drew).trans hb2
              refine hK.out _ _ (HSX.out.1.below hh2) (fun hH3 => ?_)
              clear hK K hb2
              refine wpAnyH_take (i := 4) (v := ?v4_62) rfl (by kernel_rfl) (by kernel_rfl) (by kernel_rfl) (fun _ _ _ h => h) (Or.inl ⟨by rfl, ?y4_62⟩) (by assumption) ?r4_62
              case y4_62 => intro w hSw; go_simp; try with_reducible rfl
              simp only [List.getElem_toArray, List.getElem_cons_succ, List.getElem_cons_zero, Act.put, List.setIfInBounds_toArray, List.set_cons_zero, List.set_cons_succ]
              refine wpAnyH_ready (rs := [7]) (by kernel_rfl) (by simp) ?_
              refine AllReadyH.cons rfl (fun K hK => ?_) AllReadyH.nil
              go_simp
              refine (clockText_any t.2 _).mono ?_
              rintro e w3 ⟨rfl, hb3⟩
              have hh3 : Below w1.heap.size w1 w3 := hh2.trans (hb3.mono hh2.size)
              refine hK.out _ _ (HSX.out.1.below hh3) (fun hH7 => ?_)
              clear hK K hb3
              refine wpAnyH_take (i := 8) (v := ?v8_63) rfl (by kernel_rfl) (by kernel_rfl) (by kernel_rfl) (fun _ _ _ h => h) (Or.inl ⟨by rfl, ?y8_63⟩) (by assumption) ?r8_63
              case y8_63 => intro w hSw; go_simp; try with_reducible rfl
              simp only [List.getElem_toArray, List.getElem_cons_succ, List.getElem_cons_zero, Act.put, List.setIfInBounds_toArray, List.set_cons_zero, List.set_cons_succ]
              refine wpAnyH_ready (rs := [9]) (by kernel_rfl) (by simp) ?_
              refine AllReadyH.cons rfl (fun K hK => ?_) AllReadyH.nil
              go_simp
              obtain ⟨w4, hw4⟩ : ∃ W : World, W = w3.alloc (.cells #[.string (⟨(cb t.1).toArray⟩ ++ ⟨#[45]⟩ ++ ⟨(cb t.2).toArray⟩)] 9) := ⟨_, rfl⟩
              have hh4 : Below w1.heap.size w1 w4 := by rw [hw4]; exact hh3.alloc hh3.size _
              have c4 : w4.cell? ⟨w3.heap.size, 0, none⟩ = some (.string (⟨(cb t.1).toArray⟩ ++ ⟨#[45]⟩ ++ ⟨(cb t.2).toArray⟩)) := by rw [hw4]; simp
              rw [← hw4]
              clear hw4
              refine hK.out _ _ (HSX.out.1.below hh4) (fun hH9 => ?_)
              clear hK K
              refine wpAnyH_ready (rs := [10]) (by kernel_rfl) (by simp) ?_
              refine AllReadyH.cons rfl (fun K hK => ?_) AllReadyH.nil
              refine app65 w4 (by rfl) _ _ (by rfl) W4.heap.size u8 k _ (by rfl) (own_below HR1.out.1 hh4 (Nat.le_refl _)) w3.heap.size 1 (.string (⟨(cb t.1).toArray⟩ ++ ⟨#[45]⟩ ++ ⟨(cb t.2).toArray⟩)) (by rfl) c4 rfl (by omega) (Nat.le_trans HR1.out.2.1.size hh4.size) ?_
              intro g' cap' w5 hown5 hgrow5 hat5 hlt5
              simp only [List.getElem_toArray, List.getElem_cons_succ, List.getElem_cons_zero, Act.put, List.setIfInBounds_toArray, List.set_cons_zero, List.set_cons_succ]
              have hS5 : SX W4 wr.heap.size t w5 := (HSX.out.1.below hh4).grown (own_below HR1.out.1 hh4 (Nat.le_refl _)) hgrow5 HSX.out.2
              refine hK.out _ _ hS5 (fun hH10 => ?_)
              clear hK K
              refine wpAnyH_take (i := 11) (v := ?v11_64) rfl (by kernel_rfl) (by kernel_rfl) (by kernel_rfl) (fun _ _ _ h => h) (Or.inl ⟨by rfl, ?y11_64⟩) (by assumption) ?r11_64
              case y11_64 => intro w hSw; go_simp; try with_reducible rfl
              simp only [List.getElem_toArray, List.getElem_cons_succ, List.getElem_cons_zero, Act.put, List.setIfInBounds_toArray, List.set_cons_zero, List.set_cons_succ]
              refine wpAnyH_done (by kernel_rfl) ?_ _
              have HN5 : Hid (w5.ownsRow W4.heap.size 9 1 (.slice (some ⟨g', 0, none⟩) (k + 1) cap') (k + 1) (((ts.take (k + 1)).map ckt).map Value.string) ∧ Below W4.heap.size W4 w5) := by
                refine ⟨?_, hS5.1⟩
                rw [List.take_add_one, htk]
                simp only [Option.toList_some, List.map_append, List.map_cons, List.map_nil]
                exact hown5
              clear hown5 hS5 hgrow5 hat5 hlt5 c4 hh4 hh3 hh2 hH10 hH9 hH7 hH3 hHeld x0 x1
              have hwk : IntKind.i64.wrap ((k : Int) + 1) = (k : Int) + 1 := by rw [IntKind.wrap_i64]; omega
              go_wp2_with fail
              go_roundw
              case rel => exact ⟨k + 1, by simp, by omega, HN5⟩
              case measure => simp [intOf]; omega
            · obtain rfl : k = ts.length := by omega
              have hrow := HR.out.1
              rw [List.take_length, ← List.length_map (f := ckt)] at hrow
              have hbl := HR.out.2
              have hi4 := isBuilder_below HS4.out.1 hbl
              have cw4 := writeSet_none w.heap.size w.heap.size W4.heap.size l4 u8 (ts.map ckt) wr hi4 hrow (by have := hbl.size; have := HS4.out.2.1.size; omega) (by have := HS4.out.2.2; omega) (by have := (HOK4.out).j; omega) (by have := (HOK4.out).n; omega)
              have HV4 : Hid (Below w.heap.size w wr) := HS4.out.2.1.trans (hbl.mono HS4.out.2.1.size)
              clear hrow hbl hi4
              go_wp2_with fail
              refine cw4.mono ?_
              rintro e W5 ⟨rfl, hI5, hB5⟩
              obtain ⟨l5, hl5⟩ : ∃ l, l = l4 ++ sg4 ts := ⟨_, rfl⟩
              have HS5 : Hid (Lib.IsBuilder 58 5 w.heap.size w.heap.size (Lib.byteCells l5) W5 ∧ Below w.heap.size w W5 ∧ l5.length ≤ 20000000009) := by
                refine ⟨?_, HV4.out.trans hB5, ?_⟩
                · rw [hl5]; exact hI5
                · rw [hl5, List.length_append]
                  have h1 := HS4.out.2.2
                  have h2 := (HOK4.out).s
                  have h3 : (sg4 ts).length ≤ 4000000001 := h2
                  omega
              have HL5 : Hid (l5 = l4 ++ (if x.testBit 4 then sg4 ts else [])) := by
                show l5 = _
                rw [t4, if_pos rfl]; exact hl5
              clear hI5 hB5 hl5 cw4
              have h59 := writeByte_any w.heap.size w.heap.size (Lib.byteCells l5) 59 W5 HS5.out.1 (by rw [Lib.byteCells_length]; have := HS5.out.2.2; omega) HS5.out.2.1.size
              have h59' : Calls Tryf.prog 30 #[.pointer (some ⟨w.heap.size, 0, none⟩), .int .u8 59] W5 fun e w' => e = .returned .nilIface ∧ Lib.BuilderAt 58 5 w.heap.size w.heap.size (.pointer (some ⟨w.heap.size, 0, none⟩)) (Lib.byteCells l5 ++ [.int .u8 59]) w' ∧ Below w.heap.size W5 w' ∧ KT w.heap.size W5 w' := h59
              clear h59
              go_wp2_with fail
              refine h59'.mono ?_
              rintro e W6 ⟨rfl, hI6, hB6, _⟩
              have hI6' : Lib.IsBuilder 58 5 w.heap.size w.heap.size (Lib.byteCells (l5 ++ [59])) W6 := .inr (by
                have e : Lib.byteCells (l5 ++ [59]) = Lib.byteCells l5 ++ [.int .u8 59] := by simp [Lib.byteCells]
                rw [e]; exact hI6)
              have hst := Tryf.Builder_String_any w.heap.size w.heap.size (l5 ++ [59]) W6 hI6' (Nat.le_trans HS5.out.2.1.size hB6.size)
              have HB6 : Hid (Below w.heap.size w W6) := HS5.out.2.1.trans hB6
              clear h59' hI6 hI6' hB6
              go_wp2_with fail
              refine hst.mono ?_
              rintro e W7 ⟨rfl, hB7⟩
              go_wp2_with fail
              go_ret
              refine ⟨?_, HB6.out.trans hB7⟩
              have hl : l5 ++ [59] = itemL mo s wd ts x := by
                rw [HL5.out, HL4.out, HL3.out, HL2.out, HL1.out, HL0.out]
                rfl
              rw [hl]
              rfl
  · have hh0 := has_any x hx 0 (by omega) W0
    rw [t0] at hh0
    go_wp2_with fail
    refine hh0.mono ?_
    rintro e w' ⟨rfl, hw⟩
    subst w'
    clear hh0
    have HOK0 : Hid (Ok [100, 97, 121] ((runsOf (dAcc mo 12)).map (txt nmI))) := ok0 (dAcc mo 12) (dAcc_lt mo hmo 12) [100, 97, 121] (by simp)
    have ct0 := texts_int (F := F) (dAcc mo 12) (dAcc_lt mo hmo 12) W0 (HE.out.below HS0.out.2.1)
    go_wp2_with fail
    refine ct0.mono ?_
    rintro e V0 ⟨v0, rfl, hr0, hbv0⟩
    clear ct0
    rw [← List.length_map (f := txt nmI)] at hr0
    have hi0 := isBuilder_below HS0.out.1 hbv0
    have cw0 := writeSet_word w.heap.size w.heap.size W0.heap.size l0 ⟨#[100, 97, 121]⟩ v0 ((runsOf (dAcc mo 12)).map (txt nmI)) V0 hi0 hr0 (by have := hbv0.size; have := HS0.out.2.1.size; omega) (by decide +kernel) (by decide) (by decide) (by have := HS0.out.2.2; omega) (by have := (HOK0.out).j; omega) (by have := (HOK0.out).n; omega)
    have hbB0 : Below w.heap.size w V0 := HS0.out.2.1.trans (hbv0.mono HS0.out.2.1.size)
    have HV0 : Hid (Below w.heap.size w V0) := hbB0
    clear hbB0 hr0 hi0 hbv0
    go_wp2_with fail
    refine cw0.mono ?_
    rintro e W1 ⟨rfl, hI1, hB1⟩
    obtain ⟨l1, hl1⟩ : ∃ l, l = l0 ++ sg0 mo := ⟨_, rfl⟩
    have HS1 : Hid (Lib.IsBuilder 58 5 w.heap.size w.heap.size (Lib.byteCells l1) W1 ∧ Below w.heap.size w W1 ∧ l1.length ≤ 4000000005) := by
      refine ⟨?_, HV0.out.trans hB1, ?_⟩
      · rw [hl1]; exact hI1
      · rw [hl1, List.length_append]
        have h1 := HS0.out.2.2
        have h2 := (HOK0.out).s
        have h3 : (sg0 mo).length ≤ 4000000001 := h2
        omega
    have HL1 : Hid (l1 = l0 ++ (if x.testBit 0 then sg0 mo else [])) := by
      show l1 = _
      rw [t0, if_pos rfl]; exact hl1
    clear hI1 hB1 hl1 cw0
    cases t1 : x.testBit 1
    · have hh1 := has_any x hx 1 (by omega) W1
      rw [t1] at hh1
      go_wp2_with fail
      refine hh1.mono ?_
      rintro e w' ⟨rfl, hw⟩
      subst w'
      clear hh1
      obtain ⟨W2, hW2⟩ : ∃ W, W = W1 := ⟨_, rfl⟩
      obtain ⟨l2, hl2⟩ : ∃ l, l = l1 := ⟨_, rfl⟩
      have HS2 : Hid (Lib.IsBuilder 58 5 w.heap.size w.heap.size (Lib.byteCells l2) W2 ∧ Below w.heap.size w W2 ∧ l2.length ≤ 8000000006) := by
        rw [hW2, hl2]
        exact ⟨HS1.out.1, HS1.out.2.1, by have := HS1.out.2.2; omega⟩
      have HL2 : Hid (l2 = l1 ++ (if x.testBit 1 then sg1 mo else [])) := by
        show l2 = _
        rw [t1, hl2]; simp
      rw [← hW2]
      clear hW2 hl2
      cases t2 : x.testBit 2
      · have hh2 := has_any x hx 2 (by omega) W2
        rw [t2] at hh2
        go_wp2_with fail
        refine hh2.mono ?_
        rintro e w' ⟨rfl, hw⟩
        subst w'
        clear hh2
        obtain ⟨W3, hW3⟩ : ∃ W, W = W2 := ⟨_, rfl⟩
        obtain ⟨l3, hl3⟩ : ∃ l, l = l2 := ⟨_, rfl⟩
        have HS3 : Hid (Lib.IsBuilder 58 5 w.heap.size w.heap.size (Lib.byteCells l3) W3 ∧ Below w.heap.size w W3 ∧ l3.length ≤ 12000000007) := by
          rw [hW3, hl3]
          exact ⟨HS2.out.1, HS2.out.2.1, by have := HS2.out.2.2; omega⟩
        have HL3 : Hid (l3 = l2 ++ (if x.testBit 2 then sg2 s else [])) := by
          show l3 = _
          rw [t2, hl3]; simp
        rw [← hW3]
        clear hW3 hl3
        cases t3 : x.testBit 3
        · have hh3 := has_any x hx 3 (by omega) W3
          rw [t3] at hh3
          go_wp2_with fail
          refine hh3.mono ?_
          rintro e w' ⟨rfl, hw⟩
          subst w'
          clear hh3
          obtain ⟨W4, hW4⟩ : ∃ W, W = W3 := ⟨_, rfl⟩
          obtain ⟨l4, hl4⟩ : ∃ l, l = l3 := ⟨_, rfl⟩
          have HS4 : Hid (Lib.IsBuilder 58 5 w.heap.size w.heap.size (Lib.byteCells l4) W4 ∧ Below w.heap.size w W4 ∧ l4.length ≤ 16000000008) := by
            rw [hW4, hl4]
            exact ⟨HS3.out.1, HS3.out.2.1, by have := HS3.out.2.2; omega⟩
          have HL4 : Hid (l4 = l3 ++ (if x.testBit 3 then sg3 wd else [])) := by
            show l4 = _
            rw [t3, hl4]; simp
          rw [← hW4]
          clear hW4 hl4
          cases t4 : x.testBit 4
          · have hh4 := has_any x hx 4 (by omega) W4
            rw [t4] at hh4
            go_wp2_with fail
            refine hh4.mono ?_
            rintro e w' ⟨rfl, hw⟩
            subst w'
            clear hh4
            obtain ⟨W5, hW5⟩ : ∃ W, W = W4 := ⟨_, rfl⟩
            obtain ⟨l5, hl5⟩ : ∃ l, l = l4 := ⟨_, rfl⟩
            have HS5 : Hid (Lib.IsBuilder 58 5 w.heap.size w.heap.size (Lib.byteCells l5) W5 ∧ Below w.heap.size w W5 ∧ l5.length ≤ 20000000009) := by
              rw [hW5, hl5]
              exact ⟨HS4.out.1, HS4.out.2.1, by have := HS4.out.2.2; omega⟩
            have HL5 : Hid (l5 = l4 ++ (if x.testBit 4 then sg4 ts else [])) := by
              show l5 = _
              rw [t4, hl5]; simp
            rw [← hW5]
            clear hW5 hl5
            have h59 := writeByte_any w.heap.size w.heap.size (Lib.byteCells l5) 59 W5 HS5.out.1 (by rw [Lib.byteCells_length]; have := HS5.out.2.2; omega) HS5.out.2.1.size
            have h59' : Calls Tryf.prog 30 #[.pointer (some ⟨w.heap.size, 0, none⟩), .int .u8 59] W5 fun e w' => e = .returned .nilIface ∧ Lib.BuilderAt 58 5 w.heap.size w.heap.size (.pointer (some ⟨w.heap.size, 0, none⟩)) (Lib.byteCells l5 ++ [.int .u8 59]) w' ∧ Below w.heap.size W5 w' ∧ KT w.heap.size W5 w' := h59
            clear h59
            go_wp2_with fail
            refine h59'.mono ?_
            rintro e W6 ⟨rfl, hI6, hB6, _⟩
            have hI6' : Lib.IsBuilder 58 5 w.heap.size w.heap.size (Lib.byteCells (l5 ++ [59])) W6 := .inr (by
              have e : Lib.byteCells (l5 ++ [59]) = Lib.byteCells l5 ++ [.int .u8 59] := by simp [Lib.byteCells]
              rw [e]; exact hI6)
            have hst := Tryf.Builder_String_any w.heap.size w.heap.size (l5 ++ [59]) W6 hI6' (Nat.le_trans HS5.out.2.1.size hB6.size)
            have HB6 : Hid (Below w.heap.size w W6) := HS5.out.2.1.trans hB6
            clear h59' hI6 hI6' hB6
            go_wp2_with fail
            refine hst.mono ?_
            rintro e W7 ⟨rfl, hB7⟩
            go_wp2_with fail
            go_ret
            refine ⟨?_, HB6.out.trans hB7⟩
            have hl : l5 ++ [59] = itemL mo s wd ts x := by
              rw [HL5.out, HL4.out, HL3.out, HL2.out, HL1.out, HL0.out]
              rfl
            rw [hl]
            rfl
          · have hh4 := has_any x hx 4 (by omega) W4
            rw [t4] at hh4
            go_wp2_with fail
            refine hh4.mono ?_
            rintro e w' ⟨rfl, hw⟩
            subst w'
            clear hh4
            have HOK4 : Hid (Ok [] (ts.map ckt)) := ok4 ts hts
            obtain ⟨ao, cap, htv, _, htc⟩ := HC.out.tm
            have r4 := (HC.out.below HS4.out.2.1).c4
            rw [htv] at r4
            have HTC : Hid (∀ (j : Nat) (t : Int × Int), ts[j]? = some t → ∃ g, ao = some ⟨g, 0, none⟩ ∧ w.cell? ⟨g, j * 2, none⟩ = some (.int .i64 t.1) ∧ w.cell? ⟨g, j * 2 + 1, none⟩ = some (.int .i64 t.2)) := htc
            clear htc htv
            go_wp2_with fail
            clear r4
            go_loopw [8, 60] (fun v i wr => ∃ k : Nat, i = .int .i64 (k : Int) ∧ k ≤ ts.length ∧ Hid (wr.ownsRow W4.heap.size 9 1 v k (((ts.take k).map ckt).map Value.string) ∧ Below W4.heap.size W4 wr)) (fun _ i _ => ts.length - (intOf i).toNat)
            case atStart => exact ⟨0, rfl, by omega, World.ownsRow_nil _ _ _ _, Below.refl _ _⟩
            case round =>
            obtain ⟨k, rfl, hk, HR⟩ := hrel
            by_cases hlt : k < ts.length
            · have hlt1 : decide ((k : Int) < (ts.length : Int)) = true := by simp; omega
              obtain ⟨g, rfl, hg1, hg2⟩ := HTC.out k ts[k] (List.getElem?_eq_getElem hlt)
              have hbw : Below w.heap.size w wr := HS4.out.2.1.trans (HR.out.2.mono HS4.out.2.1.size)
              have k1 := cell_keep hbw hg1
              have k2 := cell_keep hbw hg2
              have hki : (k : Int) < (ts.length : Int) := by omega
              have hg0 : g < wr.heap.size := World.block_lt_of_cell? wr ⟨g, k * 2, none⟩ k1
              have hgn : ¬ g = wr.heap.size := by omega
              have htk : ts[k]? = some ts[k] := List.getElem?_eq_getElem hlt
              generalize ts[k] = t at *
              go_wp2_with fail
              obtain ⟨w1, hw1⟩ : ∃ W : World, W = wr.alloc (.cells #[.int .i64 t.1, .int .i64 t.2] 47) := ⟨_, rfl⟩
              have hb47 : w1.heap[wr.heap.size]? = some (.cells #[.int .i64 t.1, .int .i64 t.2] 47) := by rw [hw1]; exact World.alloc_heap_new wr _
              have e0 : w1.cell? ⟨wr.heap.size, 0, none⟩ = some (.int .i64 t.1) := by rw [hw1]; simp
              have e1 : w1.cell? ⟨wr.heap.size, 1, none⟩ = some (.int .i64 t.2) := by rw [hw1]; simp
              have z1 : w1.heap.size = wr.heap.size + 1 := by rw [hw1]; simp
              have x0 : ∀ W, SX W4 wr.heap.size t W → W.cell? ⟨wr.heap.size, 0, none⟩ = some (.int .i64 t.1) := fun W hb => hb.2.1
              have x1 : ∀ W, SX W4 wr.heap.size t W → W.cell? ⟨wr.heap.size, 1, none⟩ = some (.int .i64 t.2) := fun W hb => hb.2.2
              have HR1 : Hid (w1.ownsRow W4.heap.size 9 1 u8 k (((ts.take k).map ckt).map Value.string) ∧ Below W4.heap.size W4 w1 ∧ wr.heap.size ≤ w1.heap.size) := by
                refine ⟨?_, ?_, by omega⟩
                · rw [hw1]; exact HR.out.1.alloc _
                · rw [hw1]; exact HR.out.2.alloc HR.out.2.size _
              have hnr : u8.ownBlock ≠ some wr.heap.size := by
                rcases HR1.out.1.2 with ⟨h, _⟩ | ⟨g', cap', cur, h, _, hg', _⟩
                · rw [h]; simp [Value.ownBlock]
                · intro e
                  rw [h] at e
                  have : g' = wr.heap.size := by simpa [Value.ownBlock] using e
                  rw [this, hb47] at hg'
                  cases hg'
              have HSX : Hid (SX W4 wr.heap.size t w1 ∧ u8.ownBlock ≠ some wr.heap.size) := ⟨⟨HR1.out.2.1, e0, e1⟩, hnr⟩
              rw [← hw1]
              clear hw1 e0 e1 k1 k2 hg0 hgn hg1 hg2 z1 hb47 hnr
              have cbl : ∀ m, (cb m).length = 4 := fun m => rfl
              refine wp_region_held_drew (S := fun w' => SX W4 wr.heap.size t w') (by kernel_rfl) (HSX.out.1.below (Below.refl _ _).drew) (fun hHeld => ?_)
              refine wpAnyH_take (i := 0) (v := ?v0_65) rfl (by kernel_rfl) (by kernel_rfl) (by kernel_rfl) (fun _ _ _ h => h) (Or.inl ⟨by rfl, ?y0_65⟩) (by assumption) ?r0_65
              case y0_65 => intro w hSw; go_simp; try with_reducible rfl
              simp only [List.getElem_toArray, List.getElem_cons_succ, List.getElem_cons_zero, Act.put, List.setIfInBounds_toArray, List.set_cons_zero, List.set_cons_succ]
              refine wpAnyH_take (i := 1) (v := ?v1_66) rfl (by kernel_rfl) (by kernel_rfl) (by kernel_rfl) (fun _ _ _ h => h) (Or.inl ⟨by rfl, ?y1_66⟩) (by assumption) ?r1_66
              case y1_66 => intro w hSw; go_simp; try with_reducible rfl
              simp only [List.getElem_toArray, List.getElem_cons_succ, List.getElem_cons_zero, Act.put, List.setIfInBounds_toArray, List.set_cons_zero, List.set_cons_succ]
              refine wpAnyH_take (i := 2) (v := ?v2_67) rfl (by kernel_rfl) (by kernel_rfl) (by kernel_rfl) (fun _ _ _ h => h) (Or.inl ⟨by rfl, ?y2_67⟩) (by assumption) ?r2_67
              case y2_67 => intro w hSw; go_simp; try with_reducible rfl
              simp only [List.getElem_toArray, List.getElem_cons_succ, List.getElem_cons_zero, Act.put, List.setIfInBounds_toArray, List.set_cons_zero, List.set_cons_succ]
              refine wpAnyH_take (i := 5) (v := ?v5_68) rfl (by kernel_rfl) (by kernel_rfl) (by kernel_rfl) (fun _ _ _ h => h) (Or.inl ⟨by rfl, ?y5_68⟩) (by assumption) ?r5_68
              case y5_68 => intro w hSw; go_simp; try with_reducible rfl
              simp only [List.getElem_toArray, List.getElem_cons_succ, List.getElem_cons_zero, Act.put, List.setIfInBounds_toArray, List.set_cons_zero, List.set_cons_succ]
              refine wpAnyH_take (i := 6) (v := ?v6_69) rfl (by kernel_rfl) (by kernel_rfl) (by kernel_rfl) (fun _ _ _ h => h) (Or.inl ⟨by rfl, ?y6_69⟩) (by assumption) ?r6_69
              case y6_69 => intro w hSw; go_simp; try with_reducible rfl
              simp only [List.getElem_toArray, List.getElem_cons_succ, List.getElem_cons_zero, Act.put, List.setIfInBounds_toArray, List.set_cons_zero, List.set_cons_succ]
              refine wpAnyH_ready (rs := [3]) (by kernel_rfl) (by simp) ?_
              refine AllReadyH.cons rfl (fun K hK => ?_) AllReadyH.nil
              go_simp
              refine (clockText_any t.1 _).mono ?_
              rintro e w2 ⟨rfl, hb2⟩
              have hh2 : Below w1.heap.size w1 w2 := ((Below.refl w1.heap.size w1).drew).trans hb2
              refine hK.out _ _ (HSX.out.1.below hh2) (fun hH3 => ?_)
              clear hK K hb2
              refine wpAnyH_take (i := 4) (v := ?v4_70) rfl (by kernel_rfl) (by kernel_rfl) (by kernel_rfl) (fun _ _ _ h => h) (Or.inl ⟨by rfl, ?y4_70⟩) (by assumption) ?r4_70
              case y4_70 => intro w hSw; go_simp; try with_reducible rfl
              simp only [List.getElem_toArray, List.getElem_cons_succ, List.getElem_cons_zero, Act.put, List.setIfInBounds_toArray, List.set_cons_zero, List.set_cons_succ]
              refine wpAnyH_ready (rs := [7]) (by kernel_rfl) (by simp) ?_
              refine AllReadyH.cons rfl (fun K hK => ?_) AllReadyH.nil
              go_simp
              refine (clockText_any t.2 _).mono ?_
              rintro e w3 ⟨rfl, hb3⟩
              have hh3 : Below w1.heap.size w1 w3 := hh2.trans (hb3.mono hh2.size)
              refine hK.out _ _ (HSX.out.1.below hh3) (fun hH7 => ?_)
              clear hK K hb3
              refine wpAnyH_take (i := 8) (v := ?v8_71) rfl (by kernel_rfl) (by kernel_rfl) (by kernel_rfl) (fun _ _ _ h => h) (Or.inl ⟨by rfl, ?y8_71⟩) (by assumption) ?r8_71
              case y8_71 => intro w hSw; go_simp; try with_reducible rfl
              simp only [List.getElem_toArray, List.getElem_cons_succ, List.getElem_cons_zero, Act.put, List.setIfInBounds_toArray, List.set_cons_zero, List.set_cons_succ]
              refine wpAnyH_ready (rs := [9]) (by kernel_rfl) (by simp) ?_
              refine AllReadyH.cons rfl (fun K hK => ?_) AllReadyH.nil
              go_simp
              obtain ⟨w4, hw4⟩ : ∃ W : World, W = w3.alloc (.cells #[.string (⟨(cb t.1).toArray⟩ ++ ⟨#[45]⟩ ++ ⟨(cb t.2).toArray⟩)] 9) := ⟨_, rfl⟩
              have hh4 : Below w1.heap.size w1 w4 := by rw [hw4]; exact hh3.alloc hh3.size _
              have c4 : w4.cell? ⟨w3.heap.size, 0, none⟩ = some (.string (⟨(cb t.1).toArray⟩ ++ ⟨#[45]⟩ ++ ⟨(cb t.2).toArray⟩)) := by rw [hw4]; simp
              rw [← hw4]
              clear hw4
              refine hK.out _ _ (HSX.out.1.below hh4) (fun hH9 => ?_)
              clear hK K
              refine wpAnyH_ready (rs := [10]) (by kernel_rfl) (by simp) ?_
              refine AllReadyH.cons rfl (fun K hK => ?_) AllReadyH.nil
              refine app65 w4 (by rfl) _ _ (by rfl) W4.heap.size u8 k _ (by rfl) (own_below HR1.out.1 hh4 (Nat.le_refl _)) w3.heap.size 1 (.string (⟨(cb t.1).toArray⟩ ++ ⟨#[45]⟩ ++ ⟨(cb t.2).toArray⟩)) (by rfl) c4 rfl (by omega) (Nat.le_trans HR1.out.2.1.size hh4.size) ?_
              intro g' cap' w5 hown5 hgrow5 hat5 hlt5
              simp only [List.getElem_toArray, List.getElem_cons_succ, List.getElem_cons_zero, Act.put, List.setIfInBounds_toArray, List.set_cons_zero, List.set_cons_succ]
              have hS5 : SX W4 wr.heap.size t w5 := (HSX.out.1.below hh4).grown (own_below HR1.out.1 hh4 (Nat.le_refl _)) hgrow5 HSX.out.2
              refine hK.out _ _ hS5 (fun hH10 => ?_)
              clear hK K
              refine wpAnyH_take (i := 11) (v := ?v11_72) rfl (by kernel_rfl) (by kernel_rfl) (by kernel_rfl) (fun _ _ _ h => h) (Or.inl ⟨by rfl, ?y11_72⟩) (by assumption) ?r11_72
              case y11_72 => intro w hSw; go_simp; try with_reducible rfl
              simp only [List.getElem_toArray, List.getElem_cons_succ, List.getElem_cons_zero, Act.put, List.setIfInBounds_toArray, List.set_cons_zero, List.set_cons_succ]
              refine wpAnyH_done (by kernel_rfl) ?_ _
              have HN5 : Hid (w5.ownsRow W4.heap.size 9 1 (.slice (some ⟨g', 0, none⟩) (k + 1) cap') (k + 1) (((ts.take (k + 1)).map ckt).map Value.string) ∧ Below W4.heap.size W4 w5) := by
                refine ⟨?_, hS5.1⟩
                rw [List.take_add_one, htk]
                simp only [Option.toList_some, List.map_append, List.map_cons, List.map_nil]
                exact hown5
              clear hown5 hS5 hgrow5 hat5 hlt5 c4 hh4 hh3 hh2 hH10 hH9 hH7 hH3 hHeld x0 x1
              have hwk : IntKind.i64.wrap ((k : Int) + 1) = (k : Int) + 1 := by rw [IntKind.wrap_i64]; omega
              go_wp2_with fail
              go_roundw
              case rel => exact ⟨k + 1, by simp, by omega, HN5⟩
              case measure => simp [intOf]; omega
            · obtain rfl : k = ts.length := by omega
              have hrow := HR.out.1
              rw [List.take_length, ← List.length_map (f := ckt)] at hrow
              have hbl := HR.out.2
              have hi4 := isBuilder_below HS4.out.1 hbl
              have cw4 := writeSet_none w.heap.size w.heap.size W4.heap.size l4 u8 (ts.map ckt) wr hi4 hrow (by have := hbl.size; have := HS4.out.2.1.size; omega) (by have := HS4.out.2.2; omega) (by have := (HOK4.out).j; omega) (by have := (HOK4.out).n; omega)
              have HV4 : Hid (Below w.heap.size w wr) := HS4.out.2.1.trans (hbl.mono HS4.out.2.1.size)
              clear hrow hbl hi4
              go_wp2_with fail
              refine cw4.mono ?_
              rintro e W5 ⟨rfl, hI5, hB5⟩
              obtain ⟨l5, hl5⟩ : ∃ l, l = l4 ++ sg4 ts := ⟨_, rfl⟩
              have HS5 : Hid (Lib.IsBuilder 58 5 w.heap.size w.heap.size (Lib.byteCells l5) W5 ∧ Below w.heap.size w W5 ∧ l5.length ≤ 20000000009) := by
                refine ⟨?_, HV4.out.trans hB5, ?_⟩
                · rw [hl5]; exact hI5
                · rw [hl5, List.length_append]
                  have h1 := HS4.out.2.2
                  have h2 := (HOK4.out).s
                  have h3 : (sg4 ts).length ≤ 4000000001 := h2
                  omega
              have HL5 : Hid (l5 = l4 ++ (if x.testBit 4 then sg4 ts else [])) := by
                show l5 = _
                rw [t4, if_pos rfl]; exact hl5
              clear hI5 hB5 hl5 cw4
              have h59 := writeByte_any w.heap.size w.heap.size (Lib.byteCells l5) 59 W5 HS5.out.1 (by rw [Lib.byteCells_length]; have := HS5.out.2.2; omega) HS5.out.2.1.size
              have h59' : Calls Tryf.prog 30 #[.pointer (some ⟨w.heap.size, 0, none⟩), .int .u8 59] W5 fun e w' => e = .returned .nilIface ∧ Lib.BuilderAt 58 5 w.heap.size w.heap.size (.pointer (some ⟨w.heap.size, 0, none⟩)) (Lib.byteCells l5 ++ [.int .u8 59]) w' ∧ Below w.heap.size W5 w' ∧ KT w.heap.size W5 w' := h59
              clear h59
              go_wp2_with fail
              refine h59'.mono ?_
              rintro e W6 ⟨rfl, hI6, hB6, _⟩
              have hI6' : Lib.IsBuilder 58 5 w.heap.size w.heap.size (Lib.byteCells (l5 ++ [59])) W6 := .inr (by
                have e : Lib.byteCells (l5 ++ [59]) = Lib.byteCells l5 ++ [.int .u8 59] := by simp [Lib.byteCells]
                rw [e]; exact hI6)
              have hst := Tryf.Builder_String_any w.heap.size w.heap.size (l5 ++ [59]) W6 hI6' (Nat.le_trans HS5.out.2.1.size hB6.size)
              have HB6 : Hid (Below w.heap.size w W6) := HS5.out.2.1.trans hB6
              clear h59' hI6 hI6' hB6
              go_wp2_with fail
              refine hst.mono ?_
              rintro e W7 ⟨rfl, hB7⟩
              go_wp2_with fail
              go_ret
              refine ⟨?_, HB6.out.trans hB7⟩
              have hl : l5 ++ [59] = itemL mo s wd ts x := by
                rw [HL5.out, HL4.out, HL3.out, HL2.out, HL1.out, HL0.out]
                rfl
              rw [hl]
              rfl
        · have hh3 := has_any x hx 3 (by omega) W3
          rw [t3] at hh3
          go_wp2_with fail
          refine hh3.mono ?_
          rintro e w' ⟨rfl, hw⟩
          subst w'
          clear hh3
          have HOK3 : Hid (Ok [] ((runsOf wd).map (txt wkN))) := ok3 wd
          have q3 := HC.out.below HS3.out.2.1
          have r3 := q3.c3
          clear q3
          have ct3 := texts_day (F := F) wd hwd W3 (HE.out.below HS3.out.2.1)
          go_wp2_with fail
          refine ct3.mono ?_
          rintro e V3 ⟨v3, rfl, hr3, hbv3⟩
          clear ct3
          clear r3
          rw [← List.length_map (f := txt wkN)] at hr3
          have hi3 := isBuilder_below HS3.out.1 hbv3
          have cw3 := writeSet_none w.heap.size w.heap.size W3.heap.size l3 v3 ((runsOf wd).map (txt wkN)) V3 hi3 hr3 (by have := hbv3.size; have := HS3.out.2.1.size; omega) (by have := HS3.out.2.2; omega) (by have := (HOK3.out).j; omega) (by have := (HOK3.out).n; omega)
          have hbB3 : Below w.heap.size w V3 := HS3.out.2.1.trans (hbv3.mono HS3.out.2.1.size)
          have HV3 : Hid (Below w.heap.size w V3) := hbB3
          clear hbB3 hr3 hi3 hbv3
          go_wp2_with fail
          refine cw3.mono ?_
          rintro e W4 ⟨rfl, hI4, hB4⟩
          obtain ⟨l4, hl4⟩ : ∃ l, l = l3 ++ sg3 wd := ⟨_, rfl⟩
          have HS4 : Hid (Lib.IsBuilder 58 5 w.heap.size w.heap.size (Lib.byteCells l4) W4 ∧ Below w.heap.size w W4 ∧ l4.length ≤ 16000000008) := by
            refine ⟨?_, HV3.out.trans hB4, ?_⟩
            · rw [hl4]; exact hI4
            · rw [hl4, List.length_append]
              have h1 := HS3.out.2.2
              have h2 := (HOK3.out).s
              have h3 : (sg3 wd).length ≤ 4000000001 := h2
              omega
          have HL4 : Hid (l4 = l3 ++ (if x.testBit 3 then sg3 wd else [])) := by
            show l4 = _
            rw [t3, if_pos rfl]; exact hl4
          clear hI4 hB4 hl4 cw3
          cases t4 : x.testBit 4
          · have hh4 := has_any x hx 4 (by omega) W4
            rw [t4] at hh4
            go_wp2_with fail
            refine hh4.mono ?_
            rintro e w' ⟨rfl, hw⟩
            subst w'
            clear hh4
            obtain ⟨W5, hW5⟩ : ∃ W, W = W4 := ⟨_, rfl⟩
            obtain ⟨l5, hl5⟩ : ∃ l, l = l4 := ⟨_, rfl⟩
            have HS5 : Hid (Lib.IsBuilder 58 5 w.heap.size w.heap.size (Lib.byteCells l5) W5 ∧ Below w.heap.size w W5 ∧ l5.length ≤ 20000000009) := by
              rw [hW5, hl5]
              exact ⟨HS4.out.1, HS4.out.2.1, by have := HS4.out.2.2; omega⟩
            have HL5 : Hid (l5 = l4 ++ (if x.testBit 4 then sg4 ts else [])) := by
              show l5 = _
              rw [t4, hl5]; simp
            rw [← hW5]
            clear hW5 hl5
            have h59 := writeByte_any w.heap.size w.heap.size (Lib.byteCells l5) 59 W5 HS5.out.1 (by rw [Lib.byteCells_length]; have := HS5.out.2.2; omega) HS5.out.2.1.size
            have h59' : Calls Tryf.prog 30 #[.pointer (some ⟨w.heap.size, 0, none⟩), .int .u8 59] W5 fun e w' => e = .returned .nilIface ∧ Lib.BuilderAt 58 5 w.heap.size w.heap.size (.pointer (some ⟨w.heap.size, 0, none⟩)) (Lib.byteCells l5 ++ [.int .u8 59]) w' ∧ Below w.heap.size W5 w' ∧ KT w.heap.size W5 w' := h59
            clear h59
            go_wp2_with fail
            refine h59'.mono ?_
            rintro e W6 ⟨rfl, hI6, hB6, _⟩
            have hI6' : Lib.IsBuilder 58 5 w.heap.size w.heap.size (Lib.byteCells (l5 ++ [59])) W6 := .inr (by
              have e : Lib.byteCells (l5 ++ [59]) = Lib.byteCells l5 ++ [.int .u8 59] := by simp [Lib.byteCells]
              rw [e]; exact hI6)
            have hst := Tryf.Builder_String_any w.heap.size w.heap.size (l5 ++ [59]) W6 hI6' (Nat.le_trans HS5.out.2.1.size hB6.size)
            have HB6 : Hid (Below w.heap.size w W6) := HS5.out.2.1.trans hB6
            clear h59' hI6 hI6' hB6
            go_wp2_with fail
            refine hst.mono ?_
            rintro e W7 ⟨rfl, hB7⟩
            go_wp2_with fail
            go_ret
            refine ⟨?_, HB6.out.trans hB7⟩
            have hl : l5 ++ [59] = itemL mo s wd ts x := by
              rw [HL5.out, HL4.out, HL3.out, HL2.out, HL1.out, HL0.out]
              rfl
            rw [hl]
            rfl
          · have hh4 := has_any x hx 4 (by omega) W4
            rw [t4] at hh4
            go_wp2_with fail
            refine hh4.mono ?_
            rintro e w' ⟨rfl, hw⟩
            subst w'
            clear hh4
            have HOK4 : Hid (Ok [] (ts.map ckt)) := ok4 ts hts
            obtain ⟨ao, cap, htv, _, htc⟩ := HC.out.tm
            have r4 := (HC.out.below HS4.out.2.1).c4
            rw [htv] at r4
            have HTC : Hid (∀ (j : Nat) (t : Int × Int), ts[j]? = some t → ∃ g, ao = some ⟨g, 0, none⟩ ∧ w.cell? ⟨g, j * 2, none⟩ = some (.int .i64 t.1) ∧ w.cell? ⟨g, j * 2 + 1, none⟩ = some (.int .i64 t.2)) := htc
            clear htc htv
            go_wp2_with fail
            clear r4
            go_loopw [8, 60] (fun v i wr => ∃ k : Nat, i = .int .i64 (k : Int) ∧ k ≤ ts.length ∧ Hid (wr.ownsRow W4.heap.size 9 1 v k (((ts.take k).map ckt).map Value.string) ∧ Below W4.heap.size W4 wr)) (fun _ i _ => ts.length - (intOf i).toNat)
            case atStart => exact ⟨0, rfl, by omega, World.ownsRow_nil _ _ _ _, Below.refl _ _⟩
            case round =>
            obtain ⟨k, rfl, hk, HR⟩ := hrel
            by_cases hlt : k < ts.length
            · have hlt1 : decide ((k : Int) < (ts.length : Int)) = true := by simp; omega
              obtain ⟨g, rfl, hg1, hg2⟩ := HTC.out k ts[k] (List.getElem?_eq_getElem hlt)
              have hbw : Below w.heap.size w wr := HS4.out.2.1.trans (HR.out.2.mono HS4.out.2.1.size)
              have k1 := cell_keep hbw hg1
              have k2 := cell_keep hbw hg2
              have hki : (k : Int) < (ts.length : Int) := by omega
              have hg0 : g < wr.heap.size := World.block_lt_of_cell? wr ⟨g, k * 2, none⟩ k1
              have hgn : ¬ g = wr.heap.size := by omega
              have htk : ts[k]? = some ts[k] := List.getElem?_eq_getElem hlt
              generalize ts[k] = t at *
              go_wp2_with fail
              obtain ⟨w1, hw1⟩ : ∃ W : World, W = wr.alloc (.cells #[.int .i64 t.1, .int .i64 t.2] 47) := ⟨_, rfl⟩
              have hb47 : w1.heap[wr.heap.size]? = some (.cells #[.int .i64 t.1, .int .i64 t.2] 47) := by rw [hw1]; exact World.alloc_heap_new wr _
              have e0 : w1.cell? ⟨wr.heap.size, 0, none⟩ = some (.int .i64 t.1) := by rw [hw1]; simp
              have e1 : w1.cell? ⟨wr.heap.size, 1, none⟩ = some (.int .i64 t.2) := by rw [hw1]; simp
              have z1 : w1.heap.size = wr.heap.size + 1 := by rw [hw1]; simp
              have x0 : ∀ W, SX W4 wr.heap.size t W → W.cell? ⟨wr.heap.size, 0, none⟩ = some (.int .i64 t.1) := fun W hb => hb.2.1
              have x1 : ∀ W, SX W4 wr.heap.size t W → W.cell? ⟨wr.heap.size, 1, none⟩ = some (.int .i64 t.2) := fun W hb => hb.2.2
              have HR1 : Hid (w1.ownsRow W4.heap.size 9 1 u8 k (((ts.take k).map ckt).map Value.string) ∧ Below W4.heap.size W4 w1 ∧ wr.heap.size ≤ w1.heap.size) := by
                refine ⟨?_, ?_, by omega⟩
                · rw [hw1]; exact HR.out.1.alloc _
                · rw [hw1]; exact HR.out.2.alloc HR.out.2.size _
              have hnr : u8.ownBlock ≠ some wr.heap.size := by
                rcases HR1.out.1.2 with ⟨h, _⟩ | ⟨g', cap', cur, h, _, hg', _⟩
                · rw [h]; simp [Value.ownBlock]
                · intro e
                  rw [h] at e
                  have : g' = wr.heap.size := by simpa [Value.ownBlock] using e
                  rw [this, hb47] at hg'
                  cases hg'
              have HSX : Hid (SX W4 wr.heap.size t w1 ∧ u8.ownBlock ≠ some wr.heap.size) := ⟨⟨HR1.out.2.1, e0, e1⟩, hnr⟩
              rw [← hw1]
              clear hw1 e0 e1 k1 k2 hg0 hgn hg1 hg2 z1 hb47 hnr
              have cbl : ∀ m, (cb m).length = 4 := fun m => rfl
              refine wp_region_held_drew (S := fun w' => SX W4 wr.heap.size t w') (by kernel_rfl) (HSX.out.1.below (Below.refl _ _).drew) (fun hHeld => ?_)
              refine wpAnyH_take (i := 0) (v := ?v0_73) rfl (by kernel_rfl) (by kernel_rfl) (by kernel_rfl) (fun _ _ _ h => h) (Or.inl ⟨by rfl, ?y0_73⟩) (by assumption) ?r0_73
              case y0_73 => intro w hSw; go_simp; try with_reducible rfl
              simp only [List.getElem_toArray, List.getElem_cons_succ, List.getElem_cons_zero, Act.put, List.setIfInBounds_toArray, List.set_cons_zero, List.set_cons_succ]
              refine wpAnyH_take (i := 1) (v := ?v1_74) rfl (by kernel_rfl) (by kernel_rfl) (by kernel_rfl) (fun _ _ _ h => h) (Or.inl ⟨by rfl, ?y1_74⟩) (by assumption) ?r1_74
              case y1_74 => intro w hSw; go_simp; try with_reducible rfl
              simp only [List.getElem_toArray, List.getElem_cons_succ, List.getElem_cons_zero, Act.put, List.setIfInBounds_toArray, List.set_cons_zero, List.set_cons_succ]
              refine wpAnyH_take (i := 2) (v := ?v2_75) rfl (by kernel_rfl) (by kernel_rfl) (by kernel_rfl) (fun _ _ _ h => h) (Or.inl ⟨by rfl, ?y2_75⟩) (by assumption) ?r2_75
              case y2_75 => intro w hSw; go_simp; try with_reducible rfl
              simp only [List.getElem_toArray, List.getElem_cons_succ, List.getElem_cons_zero, Act.put, List.setIfInBounds_toArray, List.set_cons_zero, List.set_cons_succ]
              refine wpAnyH_take (i := 5) (v := ?v5_76) rfl (by kernel_rfl) (by kernel_rfl) (by kernel_rfl) (fun _ _ _ h => h) (Or.inl ⟨by rfl, ?y5_76⟩) (by assumption) ?r5_76
              case y5_76 => intro w hSw; go_simp; try with_reducible rfl
              simp only [List.getElem_toArray, List.getElem_cons_succ, List.getElem_cons_zero, Act.put, List.setIfInBounds_toArray, List.set_cons_zero, List.set_cons_succ]
              refine wpAnyH_take (i := 6) (v := ?v6_77) rfl (by kernel_rfl) (by kernel_rfl) (by kernel_rfl) (fun _ _ _ h => h) (Or.inl ⟨by rfl, ?y6_77⟩) (by assumption) ?r6_77
              case y6_77 => intro w hSw; go_simp; try with_reducible rfl
              simp only [List.getElem_toArray, List.getElem_cons_succ, List.getElem_cons_zero, Act.put, List.setIfInBounds_toArray, List.set_cons_zero, List.set_cons_succ]
              refine wpAnyH_ready (rs := [3]) (by kernel_rfl) (by simp) ?_
              refine AllReadyH.cons rfl (fun K hK => ?_) AllReadyH.nil
              go_simp
              refine (clockText_any t.1 _).mono ?_
              rintro e w2 ⟨rfl, hb2⟩
              have hh2 : Below w1.heap.size w1 w2 := ((Below.refl w1.heap.size w1).drew).trans hb2
              refine hK.out _ _ (HSX.out.1.below hh2) (fun hH3 => ?_)
              clear hK K hb2
              refine wpAnyH_take (i := 4) (v := ?v4_78) rfl (by kernel_rfl) (by kernel_rfl) (by kernel_rfl) (fun _ _ _ h => h) (Or.inl ⟨by rfl, ?y4_78⟩) (by assumption) ?r4_78
              case y4_78 => intro w hSw; go_simp; try with_reducible rfl
              simp only [List.getElem_toArray, List.getElem_cons_succ, List.getElem_cons_zero, Act.put, List.setIfInBounds_toArray, List.set_cons_zero, List.set_cons_succ]
              refine wpAnyH_ready (rs := [7]) (by kernel_rfl) (by simp) ?_
              refine AllReadyH.cons rfl (fun K hK => ?_) AllReadyH.nil
              go_simp
              refine (clockText_any t.2 _).mono ?_
              rintro e w3 ⟨rfl, hb3⟩
              have hh3 : Below w1.heap.size w1 w3 := hh2.trans (hb3.mono hh2.size)
              refine hK.out _ _ (HSX.out.1.below hh3) (fun hH7 => ?_)
              clear hK K hb3
              refine wpAnyH_take (i := 8) (v := ?v8_79) rfl (by kernel_rfl) (by kernel_rfl) (by kernel_rfl) (fun _ _ _ h => h) (Or.inl ⟨by rfl, ?y8_79⟩) (by assumption) ?r8_79
              case y8_79 => intro w hSw; go_simp; try with_reducible rfl
              simp only [List.getElem_toArray, List.getElem_cons_succ, List.getElem_cons_zero, Act.put, List.setIfInBounds_toArray, List.set_cons_zero, List.set_cons_succ]
              refine wpAnyH_ready (rs := [9]) (by kernel_rfl) (by simp) ?_
              refine AllReadyH.cons rfl (fun K hK => ?_) AllReadyH.nil
              go_simp
              obtain ⟨w4, hw4⟩ : ∃ W : World, W = w3.alloc (.cells #[.string (⟨(cb t.1).toArray⟩ ++ ⟨#[45]⟩ ++ ⟨(cb t.2).toArray⟩)] 9) := ⟨_, rfl⟩
              have hh4 : Below w1.heap.size w1 w4 := by rw [hw4]; exact hh3.alloc hh3.size _
              have c4 : w4.cell? ⟨w3.heap.size, 0, none⟩ = some (.string (⟨(cb t.1).toArray⟩ ++ ⟨#[45]⟩ ++ ⟨(cb t.2).toArray⟩)) := by rw [hw4]; simp
              rw [← hw4]
              clear hw4
              refine hK.out _ _ (HSX.out.1.below hh4) (fun hH9 => ?_)
              clear hK K
              refine wpAnyH_ready (rs := [10]) (by kernel_rfl) (by simp) ?_
              refine AllReadyH.cons rfl (fun K hK => ?_) AllReadyH.nil
              refine app65 w4 (by rfl) _ _ (by rfl) W4.heap.size u8 k _ (by rfl) (own_below HR1.out.1 hh4 (Nat.le_refl _)) w3.heap.size 1 (.string (⟨(cb t.1).toArray⟩ ++ ⟨#[45]⟩ ++ ⟨(cb t.2).toArray⟩)) (by rfl) c4 rfl (by omega) (Nat.le_trans HR1.out.2.1.size hh4.size) ?_
              intro g' cap' w5 hown5 hgrow5 hat5 hlt5
              simp only [List.getElem_toArray, List.getElem_cons_succ, List.getElem_cons_zero, Act.put, List.setIfInBounds_toArray, List.set_cons_zero, List.set_cons_succ]
              have hS5 : SX W4 wr.heap.size t w5 := (HSX.out.1.below hh4).grown (own_below HR1.out.1 hh4 (Nat.le_refl _)) hgrow5 HSX.out.2
              refine hK.out _ _ hS5 (fun hH10 => ?_)
              clear hK K
              refine wpAnyH_take (i := 11) (v := ?v11_80) rfl (by kernel_rfl) (by kernel_rfl) (by kernel_rfl) (fun _ _ _ h => h) (Or.inl ⟨by rfl, ?y11_80⟩) (by assumption) ?r11_80
              case y11_80 => intro w hSw; go_simp; try with_reducible rfl
              simp only [List.getElem_toArray, List.getElem_cons_succ, List.getElem_cons_zero, Act.put, List.setIfInBounds_toArray, List.set_cons_zero, List.set_cons_succ]
              refine wpAnyH_done (by kernel_rfl) ?_ _
              have HN5 : Hid (w5.ownsRow W4.heap.size 9 1 (.slice (some ⟨g', 0, none⟩) (k + 1) cap') (k + 1) (((ts.take (k + 1)).map ckt).map Value.string) ∧ Below W4.heap.size W4 w5) := by
                refine ⟨?_, hS5.1⟩
                rw [List.take_add_one, htk]
                simp only [Option.toList_some, List.map_append, List.map_cons, List.map_nil]
                exact hown5
              clear hown5 hS5 hgrow5 hat5 hlt5 c4 hh4 hh3 hh2 hH10 hH9 hH7 hH3 hHeld x0 x1
              have hwk : IntKind.i64.wrap ((k : Int) + 1) = (k : Int) + 1 := by rw [IntKind.wrap_i64]; omega
              go_wp2_with fail
              go_roundw
              case rel => exact ⟨k + 1, by simp, by omega, HN5⟩
              case measure => simp [intOf]; omega
            · obtain rfl : k = ts.length := by omega
              have hrow := HR.out.1
              rw [List.take_length, ← List.length_map (f := ckt)] at hrow
              have hbl := HR.out.2
              have hi4 := isBuilder_below HS4.out.1 hbl
              have cw4 := writeSet_none w.heap.size w.heap.size W4.heap.size l4 u8 (ts.map ckt) wr hi4 hrow (by have := hbl.size; have := HS4.out.2.1.size; omega) (by have := HS4.out.2.2; omega) (by have := (HOK4.out).j; omega) (by have := (HOK4.out).n; omega)
              have HV4 : Hid (Below w.heap.size w wr) := HS4.out.2.1.trans (hbl.mono HS4.out.2.1.size)
              clear hrow hbl hi4
              go_wp2_with fail
              refine cw4.mono ?_
              rintro e W5 ⟨rfl, hI5, hB5⟩
              obtain ⟨l5, hl5⟩ : ∃ l, l = l4 ++ sg4 ts := ⟨_, rfl⟩
              have HS5 : Hid (Lib.IsBuilder 58 5 w.heap.size w.heap.size (Lib.byteCells l5) W5 ∧ Below w.heap.size w W5 ∧ l5.length ≤ 20000000009) := by
                refine ⟨?_, HV4.out.trans hB5, ?_⟩
                · rw [hl5]; exact hI5
                · rw [hl5, List.length_append]
                  have h1 := HS4.out.2.2
                  have h2 := (HOK4.out).s
                  have h3 : (sg4 ts).length ≤ 4000000001 := h2
                  omega
              have HL5 : Hid (l5 = l4 ++ (if x.testBit 4 then sg4 ts else [])) := by
                show l5 = _
                rw [t4, if_pos rfl]; exact hl5
              clear hI5 hB5 hl5 cw4
              have h59 := writeByte_any w.heap.size w.heap.size (Lib.byteCells l5) 59 W5 HS5.out.1 (by rw [Lib.byteCells_length]; have := HS5.out.2.2; omega) HS5.out.2.1.size
              have h59' : Calls Tryf.prog 30 #[.pointer (some ⟨w.heap.size, 0, none⟩), .int .u8 59] W5 fun e w' => e = .returned .nilIface ∧ Lib.BuilderAt 58 5 w.heap.size w.heap.size (.pointer (some ⟨w.heap.size, 0, none⟩)) (Lib.byteCells l5 ++ [.int .u8 59]) w' ∧ Below w.heap.size W5 w' ∧ KT w.heap.size W5 w' := h59
              clear h59
              go_wp2_with fail
              refine h59'.mono ?_
              rintro e W6 ⟨rfl, hI6, hB6, _⟩
              have hI6' : Lib.IsBuilder 58 5 w.heap.size w.heap.size (Lib.byteCells (l5 ++ [59])) W6 := .inr (by
                have e : Lib.byteCells (l5 ++ [59]) = Lib.byteCells l5 ++ [.int .u8 59] := by simp [Lib.byteCells]
                rw [e]; exact hI6)
              have hst := Tryf.Builder_String_any w.heap.size w.heap.size (l5 ++ [59]) W6 hI6' (Nat.le_trans HS5.out.2.1.size hB6.size)
              have HB6 : Hid (Below w.heap.size w W6) := HS5.out.2.1.trans hB6
              clear h59' hI6 hI6' hB6
              go_wp2_with fail
              refine hst.mono ?_
              rintro e W7 ⟨rfl, hB7⟩
              go_wp2_with fail
              go_ret
              refine ⟨?_, HB6.out.trans hB7⟩
              have hl : l5 ++ [59] = itemL mo s wd ts x := by
                rw [HL5.out, HL4.out, HL3.out, HL2.out, HL1.out, HL0.out]
                rfl
              rw [hl]
              rfl
      · have hh2 := has_any x hx 2 (by omega) W2
        rw [t2] at hh2
        go_wp2_with fail
        refine hh2.mono ?_
        rintro e w' ⟨rfl, hw⟩
        subst w'
        clear hh2
        have HOK2 : Hid (Ok [121, 101, 97, 114] ((yruns s).map (txt yN))) := ok2 s hs [121, 101, 97, 114] (by simp)
        have q2 := HC.out.below HS2.out.2.1
        have r2 := q2.c2
        have r12 := q2.d12
        clear q2
        have ct2 := texts_year (F := F) s hs W2 (HE.out.below HS2.out.2.1)
        go_wp2_with fail
        refine ct2.mono ?_
        rintro e V2 ⟨v2, rfl, hr2, hbv2⟩
        clear ct2
        clear r2 r12
        rw [← List.length_map (f := txt yN)] at hr2
        have hi2 := isBuilder_below HS2.out.1 hbv2
        have cw2 := writeSet_word w.heap.size w.heap.size W2.heap.size l2 ⟨#[121, 101, 97, 114]⟩ v2 ((yruns s).map (txt yN)) V2 hi2 hr2 (by have := hbv2.size; have := HS2.out.2.1.size; omega) (by decide +kernel) (by decide) (by decide) (by have := HS2.out.2.2; omega) (by have := (HOK2.out).j; omega) (by have := (HOK2.out).n; omega)
        have hbB2 : Below w.heap.size w V2 := HS2.out.2.1.trans (hbv2.mono HS2.out.2.1.size)
        have HV2 : Hid (Below w.heap.size w V2) := hbB2
        clear hbB2 hr2 hi2 hbv2
        go_wp2_with fail
        refine cw2.mono ?_
        rintro e W3 ⟨rfl, hI3, hB3⟩
        obtain ⟨l3, hl3⟩ : ∃ l, l = l2 ++ sg2 s := ⟨_, rfl⟩
        have HS3 : Hid (Lib.IsBuilder 58 5 w.heap.size w.heap.size (Lib.byteCells l3) W3 ∧ Below w.heap.size w W3 ∧ l3.length ≤ 12000000007) := by
          refine ⟨?_, HV2.out.trans hB3, ?_⟩
          · rw [hl3]; exact hI3
          · rw [hl3, List.length_append]
            have h1 := HS2.out.2.2
            have h2 := (HOK2.out).s
            have h3 : (sg2 s).length ≤ 4000000001 := h2
            omega
        have HL3 : Hid (l3 = l2 ++ (if x.testBit 2 then sg2 s else [])) := by
          show l3 = _
          rw [t2, if_pos rfl]; exact hl3
        clear hI3 hB3 hl3 cw2
        cases t3 : x.testBit 3
        · have hh3 := has_any x hx 3 (by omega) W3
          rw [t3] at hh3
          go_wp2_with fail
          refine hh3.mono ?_
          rintro e w' ⟨rfl, hw⟩
          subst w'
          clear hh3
          obtain ⟨W4, hW4⟩ : ∃ W, W = W3 := ⟨_, rfl⟩
          obtain ⟨l4, hl4⟩ : ∃ l, l = l3 := ⟨_, rfl⟩
          have HS4 : Hid (Lib.IsBuilder 58 5 w.heap.size w.heap.size (Lib.byteCells l4) W4 ∧ Below w.heap.size w W4 ∧ l4.length ≤ 16000000008) := by
            rw [hW4, hl4]
            exact ⟨HS3.out.1, HS3.out.2.1, by have := HS3.out.2.2; omega⟩
          have HL4 : Hid (l4 = l3 ++ (if x.testBit 3 then sg3 wd else [])) := by
            show l4 = _
            rw [t3, hl4]; simp
          rw [← hW4]
          clear hW4 hl4
          cases t4 : x.testBit 4
          · have hh4 := has_any x hx 4 (by omega) W4
            rw [t4] at hh4
            go_wp2_with fail
            refine hh4.mono ?_
            rintro e w' ⟨rfl, hw⟩
            subst w'
            clear hh4
            obtain ⟨W5, hW5⟩ : ∃ W, W = W4 := ⟨_, rfl⟩
            obtain ⟨l5, hl5⟩ : ∃ l, l = l4 := ⟨_, rfl⟩
            have HS5 : Hid (Lib.IsBuilder 58 5 w.heap.size w.heap.size (Lib.byteCells l5) W5 ∧ Below w.heap.size w W5 ∧ l5.length ≤ 20000000009) := by
              rw [hW5, hl5]
              exact ⟨HS4.out.1, HS4.out.2.1, by have := HS4.out.2.2; omega⟩
            have HL5 : Hid (l5 = l4 ++ (if x.testBit 4 then sg4 ts else [])) := by
              show l5 = _
              rw [t4, hl5]; simp
            rw [← hW5]
            clear hW5 hl5
            have h59 := writeByte_any w.heap.size w.heap.size (Lib.byteCells l5) 59 W5 HS5.out.1 (by rw [Lib.byteCells_length]; have := HS5.out.2.2; omega) HS5.out.2.1.size
            have h59' : Calls Tryf.prog 30 #[.pointer (some ⟨w.heap.size, 0, none⟩), .int .u8 59] W5 fun e w' => e = .returned .nilIface ∧ Lib.BuilderAt 58 5 w.heap.size w.heap.size (.pointer (some ⟨w.heap.size, 0, none⟩)) (Lib.byteCells l5 ++ [.int .u8 59]) w' ∧ Below w.heap.size W5 w' ∧ KT w.heap.size W5 w' := h59
            clear h59
            go_wp2_with fail
            refine h59'.mono ?_
            rintro e W6 ⟨rfl, hI6, hB6, _⟩
            have hI6' : Lib.IsBuilder 58 5 w.heap.size w.heap.size (Lib.byteCells (l5 ++ [59])) W6 := .inr (by
              have e : Lib.byteCells (l5 ++ [59]) = Lib.byteCells l5 ++ [.int .u8 59] := by simp [Lib.byteCells]
              rw [e]; exact hI6)
            have hst := Tryf.Builder_String_any w.heap.size w.heap.size (l5 ++ [59]) W6 hI6' (Nat.le_trans HS5.out.2.1.size hB6.size)
            have HB6 : Hid (Below w.heap.size w W6) := HS5.out.2.1.trans hB6
            clear h59' hI6 hI6' hB6
            go_wp2_with fail
            refine hst.mono ?_
            rintro e W7 ⟨rfl, hB7⟩
            go_wp2_with fail
            go_ret
            refine ⟨?_, HB6.out.trans hB7⟩
            have hl : l5 ++ [59] = itemL mo s wd ts x := by
              rw [HL5.out, HL4.out, HL3.out, HL2.out, HL1.out, HL0.out]
              rfl
            rw [hl]
            rfl
          · have hh4 := has_any x hx 4 (by omega) W4
            rw [t4] at hh4
            go_wp2_with fail
            refine hh4.mono ?_
            rintro e w' ⟨rfl, hw⟩
            subst w'
            clear hh4
            have HOK4 : Hid (Ok [] (ts.map ckt)) := ok4 ts hts
            obtain ⟨ao, cap, htv, _, htc⟩ := HC.out.tm
            have r4 := (HC.out.below HS4.out.2.1).c4
            rw [htv] at r4
            have HTC : Hid (∀ (j : Nat) (t : Int × Int), ts[j]? = some t → ∃ g, ao = some ⟨g, 0, none⟩ ∧ w.cell? ⟨g, j * 2, none⟩ = some (.int .i64 t.1) ∧ w.cell? ⟨g, j * 2 + 1, none⟩ = some (.int .i64 t.2)) := htc
            clear htc htv
            go_wp2_with fail
            clear r4
            go_loopw [8, 60] (fun v i wr => ∃ k : Nat, i = .int .i64 (k : Int) ∧ k ≤ ts.length ∧ Hid (wr.ownsRow W4.heap.size 9 1 v k (((ts.take k).map ckt).map Value.string) ∧ Below W4.heap.size W4 wr)) (fun _ i _ => ts.length - (intOf i).toNat)
            case atStart => exact ⟨0, rfl, by omega, World.ownsRow_nil _ _ _ _, Below.refl _ _⟩
            case round =>
            obtain ⟨k, rfl, hk, HR⟩ := hrel
            by_cases hlt : k < ts.length
            · have hlt1 : decide ((k : Int) < (ts.length : Int)) = true := by simp; omega
              obtain ⟨g, rfl, hg1, hg2⟩ := HTC.out k ts[k] (List.getElem?_eq_getElem hlt)
              have hbw : Below w.heap.size w wr := HS4.out.2.1.trans (HR.out.2.mono HS4.out.2.1.size)
              have k1 := cell_keep hbw hg1
              have k2 := cell_keep hbw hg2
              have hki : (k : Int) < (ts.length : Int) := by omega
              have hg0 : g < wr.heap.size := World.block_lt_of_cell? wr ⟨g, k * 2, none⟩ k1
              have hgn : ¬ g = wr.heap.size := by omega
              have htk : ts[k]? = some ts[k] := List.getElem?_eq_getElem hlt
              generalize ts[k] = t at *
              go_wp2_with fail
              obtain ⟨w1, hw1⟩ : ∃ W : World, W = wr.alloc (.cells #[.int .i64 t.1, .int .i64 t.2] 47) := ⟨_, rfl⟩
              have hb47 : w1.heap[wr.heap.size]? = some (.cells #[.int .i64 t.1, .int .i64 t.2] 47) := by rw [hw1]; exact World.alloc_heap_new wr _
              have e0 : w1.cell? ⟨wr.heap.size, 0, none⟩ = some (.int .i64 t.1) := by rw [hw1]; simp
              have e1 : w1.cell? ⟨wr.heap.size, 1, none⟩ = some (.int .i64 t.2) := by rw [hw1]; simp
              have z1 : w1.heap.size = wr.heap.size + 1 := by rw [hw1]; simp
              have x0 : ∀ W, SX W4 wr.heap.size t W → W.cell? ⟨wr.heap.size, 0, none⟩ = some (.int .i64 t.1) := fun W hb => hb.2.1
              have x1 : ∀ W, SX W4 wr.heap.size t W → W.cell? ⟨wr.heap.size, 1, none⟩ = some (.int .i64 t.2) := fun W hb => hb.2.2
              have HR1 : Hid (w1.ownsRow W4.heap.size 9 1 u8 k (((ts.take k).map ckt).map Value.string) ∧ Below W4.heap.size W4 w1 ∧ wr.heap.size ≤ w1.heap.size) := by
                refine ⟨?_, ?_, by omega⟩
                · rw [hw1]; exact HR.out.1.alloc _
                · rw [hw1]; exact HR.out.2.alloc HR.out.2.size _
              have hnr : u8.ownBlock ≠ some wr.heap.size := by
                rcases HR1.out.1.2 with ⟨h, _⟩ | ⟨g', cap', cur, h, _, hg', _⟩
                · rw [h]; simp [Value.ownBlock]
                · intro e
                  rw [h] at e
                  have : g' = wr.heap.size := by simpa [Value.ownBlock] using e
                  rw [this, hb47] at hg'
                  cases hg'
              have HSX : Hid (SX W4 wr.heap.size t w1 ∧ u8.ownBlock ≠ some wr.heap.size) := ⟨⟨HR1.out.2.1, e0, e1⟩, hnr⟩
              rw [← hw1]
              clear hw1 e0 e1 k1 k2 hg0 hgn hg1 hg2 z1 hb47 hnr
              have cbl : ∀ m, (cb m).length = 4 := fun m => rfl
              refine wp_region_held_drew (S := fun w' => SX W4 wr.heap.size t w') (by kernel_rfl) (HSX.out.1.below (Below.refl _ _).drew) (fun hHeld => ?_)
              refine wpAnyH_take (i := 0) (v := ?v0_81) rfl (by kernel_rfl) (by kernel_rfl) (by kernel_rfl) (fun _ _ _ h => h) (Or.inl ⟨by rfl, ?y0_81⟩) (by assumption) ?r0_81
              case y0_81 => intro w hSw; go_simp; try with_reducible rfl
              simp only [List.getElem_toArray, List.getElem_cons_succ, List.getElem_cons_zero, Act.put, List.setIfInBounds_toArray, List.set_cons_zero, List.set_cons_succ]
              refine wpAnyH_take (i := 1) (v := ?v1_82) rfl (by kernel_rfl) (by kernel_rfl) (by kernel_rfl) (fun _ _ _ h => h) (Or.inl ⟨by rfl, ?y1_82⟩) (by assumption) ?r1_82
              case y1_82 => intro w hSw; go_simp; try with_reducible rfl
              simp only [List.getElem_toArray, List.getElem_cons_succ, List.getElem_cons_zero, Act.put, List.setIfInBounds_toArray, List.set_cons_zero, List.set_cons_succ]
              refine wpAnyH_take (i := 2) (v := ?v2_83) rfl (by kernel_rfl) (by kernel_rfl) (by kernel_rfl) (fun _ _ _ h => h) (Or.inl ⟨by rfl, ?y2_83⟩) (by assumption) ?r2_83
              case y2_83 => intro w hSw; go_simp; try with_reducible rfl
              simp only [List.getElem_toArray, List.getElem_cons_succ, List.getElem_cons_zero, Act.put, List.setIfInBounds_toArray, List.set_cons_zero, List.set_cons_succ]
              refine wpAnyH_take (i := 5) (v := ?v5_84) rfl (by kernel_rfl) (by kernel_rfl) (by kernel_rfl) (fun _ _ _ h => h) (Or.inl ⟨by rfl, ?y5_84⟩) (by assumption) ?r5_84
              case y5_84 => intro w hSw; go_simp; try with_reducible rfl
              simp only [List.getElem_toArray, List.getElem_cons_succ, List.getElem_cons_zero, Act.put, List.setIfInBounds_toArray, List.set_cons_zero, List.set_cons_succ]
              refine wpAnyH_take (i := 6) (v := ?v6_85) rfl (by kernel_rfl) (by kernel_rfl) (by kernel_rfl) (fun _ _ _ h => h) (Or.inl ⟨by rfl, ?y6_85⟩) (by assumption) ?r6_85
              case y6_85 => intro w hSw; go_simp; try with_reducible rfl
              simp only [List.getElem_toArray, List.getElem_cons_succ, List.getElem_cons_zero, Act.put, List.setIfInBounds_toArray, List.set_cons_zero, List.set_cons_succ]
              refine wpAnyH_ready (rs := [3]) (by kernel_rfl) (by simp) ?_
              refine AllReadyH.cons rfl (fun K hK => ?_) AllReadyH.nil
              go_simp
              refine (clockText_any t.1 _).mono ?_
              rintro e w2 ⟨rfl, hb2⟩
              have hh2 : Below w1.heap.size w1 w2 := ((Below.refl w1.heap.size w1).drew).trans hb2
              refine hK.out _ _ (HSX.out.1.below hh2) (fun hH3 => ?_)
              clear hK K hb2
              refine wpAnyH_take (i := 4) (v := ?v4_86) rfl (by kernel_rfl) (by kernel_rfl) (by kernel_rfl) (fun _ _ _ h => h) (Or.inl ⟨by rfl, ?y4_86⟩) (by assumption) ?r4_86
              case y4_86 => intro w hSw; go_simp; try with_reducible rfl
              simp only [List.getElem_toArray, List.getElem_cons_succ, List.getElem_cons_zero, Act.put, List.setIfInBounds_toArray, List.set_cons_zero, List.set_cons_succ]
              refine wpAnyH_ready (rs := [7]) (by kernel_rfl) (by simp) ?_
              refine AllReadyH.cons rfl (fun K hK => ?_) AllReadyH.nil
              go_simp
              refine (clockText_any t.2 _).mono ?_
              rintro e w3 ⟨rfl, hb3⟩
              have hh3 : Below w1.heap.size w1 w3 := hh2.trans (hb3.mono hh2.size)
              refine hK.out _ _ (HSX.out.1.below hh3) (fun hH7 => ?_)
              clear hK K hb3
              refine wpAnyH_take (i := 8) (v := ?v8_87) rfl (by kernel_rfl) (by kernel_rfl) (by kernel_rfl) (fun _ _ _ h => h) (Or.inl ⟨by rfl, ?y8_87⟩) (by assumption) ?r8_87
              case y8_87 => intro w hSw; go_simp; try with_reducible rfl
              simp only [List.getElem_toArray, List.getElem_cons_succ, List.getElem_cons_zero, Act.put, List.setIfInBounds_toArray, List.set_cons_zero, List.set_cons_succ]
              refine wpAnyH_ready (rs := [9]) (by kernel_rfl) (by simp) ?_
              refine AllReadyH.cons rfl (fun K hK => ?_) AllReadyH.nil
              go_simp
              obtain ⟨w4, hw4⟩ : ∃ W : World, W = w3.alloc (.cells #[.string (⟨(cb t.1).toArray⟩ ++ ⟨#[45]⟩ ++ ⟨(cb t.2).toArray⟩)] 9) := ⟨_, rfl⟩
              have hh4 : Below w1.heap.size w1 w4 := by rw [hw4]; exact hh3.alloc hh3.size _
              have c4 : w4.cell? ⟨w3.heap.size, 0, none⟩ = some (.string (⟨(cb t.1).toArray⟩ ++ ⟨#[45]⟩ ++ ⟨(cb t.2).toArray⟩)) := by rw [hw4]; simp
              rw [← hw4]
              clear hw4
              refine hK.out _ _ (HSX.out.1.below hh4) (fun hH9 => ?_)
              clear hK K
              refine wpAnyH_ready (rs := [10]) (by kernel_rfl) (by simp) ?_
              refine AllReadyH.cons rfl (fun K hK => ?_) AllReadyH.nil
              refine app65 w4 (by rfl) _ _ (by rfl) W4.heap.size u8 k _ (by rfl) (own_below HR1.out.1 hh4 (Nat.le_refl _)) w3.heap.size 1 (.string (⟨(cb t.1).toArray⟩ ++ ⟨#[45]⟩ ++ ⟨(cb t.2).toArray⟩)) (by rfl) c4 rfl (by omega) (Nat.le_trans HR1.out.2.1.size hh4.size) ?_
              intro g' cap' w5 hown5 hgrow5 hat5 hlt5
              simp only [List.getElem_toArray, List.getElem_cons_succ, List.getElem_cons_zero, Act.put, List.setIfInBounds_toArray, List.set_cons_zero, List.set_cons_succ]
              have hS5 : SX W4 wr.heap.size t w5 := (HSX.out.1.below hh4).grown (own_below HR1.out.1 hh4 (Nat.le_refl _)) hgrow5 HSX.out.2
              refine hK.out _ _ hS5 (fun hH10 => ?_)
              clear hK K
              refine wpAnyH_take (i := 11) (v := ?v11_88) rfl (by kernel_rfl) (by kernel_rfl) (by kernel_rfl) (fun _ _ _ h => h) (Or.inl ⟨by rfl, ?y11_88⟩) (by assumption) ?r11_88
              case y11_88 => intro w hSw; go_simp; try with_reducible rfl
              simp only [List.getElem_toArray, List.getElem_cons_succ, List.getElem_cons_zero, Act.put, List.setIfInBounds_toArray, List.set_cons_zero, List.set_cons_succ]
              refine wpAnyH_done (by kernel_rfl) ?_ _
              have HN5 : Hid (w5.ownsRow W4.heap.size 9 1 (.slice (some ⟨g', 0, none⟩) (k + 1) cap') (k + 1) (((ts.take (k + 1)).map ckt).map Value.string) ∧ Below W4.heap.size W4 w5) := by
                refine ⟨?_, hS5.1⟩
                rw [List.take_add_one, htk]
                simp only [Option.toList_some, List.map_append, List.map_cons, List.map_nil]
                exact hown5
              clear hown5 hS5 hgrow5 hat5 hlt5 c4 hh4 hh3 hh2 hH10 hH9 hH7 hH3 hHeld x0 x1
              have hwk : IntKind.i64.wrap ((k : Int) + 1) = (k : Int) + 1 := by rw [IntKind.wrap_i64]; omega
              go_wp2_with fail
              go_roundw
              case rel => exact ⟨k + 1, by simp, by omega, HN5⟩
              case measure => simp [intOf]; omega
            · obtain rfl : k = ts.length := by omega
              have hrow := HR.out.1
              rw [List.take_length, ← List.length_map (f := ckt)] at hrow
              have hbl := HR.out.2
              have hi4 := isBuilder_below HS4.out.1 hbl
              have cw4 := writeSet_none w.heap.size w.heap.size W4.heap.size l4 u8 (ts.map ckt) wr hi4 hrow (by have := hbl.size; have := HS4.out.2.1.size; omega) (by have := HS4.out.2.2; omega) (by have := (HOK4.out).j; omega) (by have := (HOK4.out).n; omega)
              have HV4 : Hid (Below w.heap.size w wr) := HS4.out.2.1.trans (hbl.mono HS4.out.2.1.size)
              clear hrow hbl hi4
              go_wp2_with fail
              refine cw4.mono ?_
              rintro e W5 ⟨rfl, hI5, hB5⟩
              obtain ⟨l5, hl5⟩ : ∃ l, l = l4 ++ sg4 ts := ⟨_, rfl⟩
              have HS5 : Hid (Lib.IsBuilder 58 5 w.heap.size w.heap.size (Lib.byteCells l5) W5 ∧ Below w.heap.size w W5 ∧ l5.length ≤ 20000000009) := by
                refine ⟨?_, HV4.out.trans hB5, ?_⟩
                · rw [hl5]; exact hI5
                · rw [hl5, List.length_append]
                  have h1 := HS4.out.2.2
                  have h2 := (HOK4.out).s
                  have h3 : (sg4 ts).length ≤ 4000000001 := h2
                  omega
              have HL5 : Hid (l5 = l4 ++ (if x.testBit 4 then sg4 ts else [])) := by
                show l5 = _
                rw [t4, if_pos rfl]; exact hl5
              clear hI5 hB5 hl5 cw4
              have h59 := writeByte_any w.heap.size w.heap.size (Lib.byteCells l5) 59 W5 HS5.out.1 (by rw [Lib.byteCells_length]; have := HS5.out.2.2; omega) HS5.out.2.1.size
              have h59' : Calls Tryf.prog 30 #[.pointer (some ⟨w.heap.size, 0, none⟩), .int .u8 59] W5 fun e w' => e = .returned .nilIface ∧ Lib.BuilderAt 58 5 w.heap.size w.heap.size (.pointer (some ⟨w.heap.size, 0, none⟩)) (Lib.byteCells l5 ++ [.int .u8 59]) w' ∧ Below w.heap.size W5 w' ∧ KT w.heap.size W5 w' := h59
              clear h59
              go_wp2_with fail
              refine h59'.mono ?_
              rintro e W6 ⟨rfl, hI6, hB6, _⟩
              have hI6' : Lib.IsBuilder 58 5 w.heap.size w.heap.size (Lib.byteCells (l5 ++ [59])) W6 := .inr (by
                have e : Lib.byteCells (l5 ++ [59]) = Lib.byteCells l5 ++ [.int .u8 59] := by simp [Lib.byteCells]
                rw [e]; exact hI6)
              have hst := Tryf.Builder_String_any w.heap.size w.heap.size (l5 ++ [59]) W6 hI6' (Nat.le_trans HS5.out.2.1.size hB6.size)
              have HB6 : Hid (Below w.heap.size w W6) := HS5.out.2.1.trans hB6
              clear h59' hI6 hI6' hB6
              go_wp2_with fail
              refine hst.mono ?_
              rintro e W7 ⟨rfl, hB7⟩
              go_wp2_with fail
              go_ret
              refine ⟨?_, HB6.out.trans hB7⟩
              have hl : l5 ++ [59] = itemL mo s wd ts x := by
                rw [HL5.out, HL4.out, HL3.out, HL2.out, HL1.out, HL0.out]
                rfl
              rw [hl]
              rfl
        · have hh3 := has_any x hx 3 (by omega) W3
          rw [t3] at hh3
          go_wp2_with fail
          refine hh3.mono ?_
          rintro e w' ⟨rfl, hw⟩
          subst w'
          clear hh3
          have HOK3 : Hid (Ok [] ((runsOf wd).map (txt wkN))) := ok3 wd
          have q3 := HC.out.below HS3.out.2.1
          have r3 := q3.c3
          clear q3
          have ct3 := texts_day (F := F) wd hwd W3 (HE.out.below HS3.out.2.1)
          go_wp2_with fail
          refine ct3.mono ?_
          rintro e V3 ⟨v3, rfl, hr3, hbv3⟩
          clear ct3
          clear r3
          rw [← List.length_map (f := txt wkN)] at hr3
          have hi3 := isBuilder_below HS3.out.1 hbv3
          have cw3 := writeSet_none w.heap.size w.heap.size W3.heap.size l3 v3 ((runsOf wd).map (txt wkN)) V3 hi3 hr3 (by have := hbv3.size; have := HS3.out.2.1.size; omega) (by have := HS3.out.2.2; omega) (by have := (HOK3.out).j; omega) (by have := (HOK3.out).n; omega)
          have hbB3 : Below w.heap.size w V3 := HS3.out.2.1.trans (hbv3.mono HS3.out.2.1.size)
          have HV3 : Hid (Below w.heap.size w V3) := hbB3
          clear hbB3 hr3 hi3 hbv3
          go_wp2_with fail
          refine cw3.mono ?_
          rintro e W4 ⟨rfl, hI4, hB4⟩
          obtain ⟨l4, hl4⟩ : ∃ l, l = l3 ++ sg3 wd := ⟨_, rfl⟩
          have HS4 : Hid (Lib.IsBuilder 58 5 w.heap.size w.heap.size (Lib.byteCells l4) W4 ∧ Below w.heap.size w W4 ∧ l4.length ≤ 16000000008) := by
            refine ⟨?_, HV3.out.trans hB4, ?_⟩
            · rw [hl4]; exact hI4
            · rw [hl4, List.length_append]
              have h1 := HS3.out.2.2
              have h2 := (HOK3.out).s
              have h3 : (sg3 wd).length ≤ 4000000001 := h2
              omega
          have HL4 : Hid (l4 = l3 ++ (if x.testBit 3 then sg3 wd else [])) := by
            show l4 = _
            rw [t3, if_pos rfl]; exact hl4
          clear hI4 hB4 hl4 cw3
          cases t4 : x.testBit 4
          · have hh4 := has_any x hx 4 (by omega) W4
            rw [t4] at hh4
            go_wp2_with fail
            refine hh4.mono ?_
            rintro e w' ⟨rfl, hw⟩
            subst w'
            clear hh4
            obtain ⟨W5, hW5⟩ : ∃ W, W = W4 := ⟨_, rfl⟩
            obtain ⟨l5, hl5⟩ : ∃ l, l = l4 := ⟨_, rfl⟩
            have HS5 : Hid (Lib.IsBuilder 58 5 w.heap.size w.heap.size (Lib.byteCells l5) W5 ∧ Below w.heap.size w W5 ∧ l5.length ≤ 20000000009) := by
              rw [hW5, hl5]
              exact ⟨HS4.out.1, HS4.out.2.1, by have := HS4.out.2.2; omega⟩
            have HL5 : Hid (l5 = l4 ++ (if x.testBit 4 then sg4 ts else [])) := by
              show l5 = _
              rw [t4, hl5]; simp
            rw [← hW5]
            clear hW5 hl5
            have h59 := writeByte_any w.heap.size w.heap.size (Lib.byteCells l5) 59 W5 HS5.out.1 (by rw [Lib.byteCells_length]; have := HS5.out.2.2; omega) HS5.out.2.1.size
            have h59' : Calls Tryf.prog 30 #[.pointer (some ⟨w.heap.size, 0, none⟩), .int .u8 59] W5 fun e w' => e = .returned .nilIface ∧ Lib.BuilderAt 58 5 w.heap.size w.heap.size (.pointer (some ⟨w.heap.size, 0, none⟩)) (Lib.byteCells l5 ++ [.int .u8 59]) w' ∧ Below w.heap.size W5 w' ∧ KT w.heap.size W5 w' := h59
            clear h59
            go_wp2_with fail
            refine h59'.mono ?_
            rintro e W6 ⟨rfl, hI6, hB6, _⟩
            have hI6' : Lib.IsBuilder 58 5 w.heap.size w.heap.size (Lib.byteCells (l5 ++ [59])) W6 := .inr (by
              have e : Lib.byteCells (l5 ++ [59]) = Lib.byteCells l5 ++ [.int .u8 59] := by simp [Lib.byteCells]
              rw [e]; exact hI6)
            have hst := Tryf.Builder_String_any w.heap.size w.heap.size (l5 ++ [59]) W6 hI6' (Nat.le_trans HS5.out.2.1.size hB6.size)
            have HB6 : Hid (Below w.heap.size w W6) := HS5.out.2.1.trans hB6
            clear h59' hI6 hI6' hB6
            go_wp2_with fail
            refine hst.mono ?_
            rintro e W7 ⟨rfl, hB7⟩
            go_wp2_with fail
            go_ret
            refine ⟨?_, HB6.out.trans hB7⟩
            have hl : l5 ++ [59] = itemL mo s wd ts x := by
              rw [HL5.out, HL4.out, HL3.out, HL2.out, HL1.out, HL0.out]
              rfl
            rw [hl]
            rfl
          · have hh4 := has_any x hx 4 (by omega) W4
            rw [t4] at hh4
            go_wp2_with fail
            refine hh4.mono ?_
            rintro e w' ⟨rfl, hw⟩
            subst w'
            clear hh4
            have HOK4 : Hid (Ok [] (ts.map ckt)) := ok4 ts hts
            obtain ⟨ao, cap, htv, _, htc⟩ := HC.out.tm
            have r4 := (HC.out.below HS4.out.2.1).c4
            rw [htv] at r4
            have HTC : Hid (∀ (j : Nat) (t : Int × Int), ts[j]? = some t → ∃ g, ao = some ⟨g, 0, none⟩ ∧ w.cell? ⟨g, j * 2, none⟩ = some (.int .i64 t.1) ∧ w.cell? ⟨g, j * 2 + 1, none⟩ = some (.int .i64 t.2)) := htc
            clear htc htv
            go_wp2_with fail
            clear r4
            go_loopw [8, 60] (fun v i wr => ∃ k : Nat, i = .int .i64 (k : Int) ∧ k ≤ ts.length ∧ Hid (wr.ownsRow W4.heap.size 9 1 v k (((ts.take k).map ckt).map Value.string) ∧ Below W4.heap.size W4 wr)) (fun _ i _ => ts.length - (intOf i).toNat)
            case atStart => exact ⟨0, rfl, by omega, World.ownsRow_nil _ _ _ _, Below.refl _ _⟩
            case round =>
            obtain ⟨k, rfl, hk, HR⟩ := hrel
            by_cases hlt : k < ts.length
            · have hlt1 : decide ((k : Int) < (ts.length : Int)) = true := by simp; omega
              obtain ⟨g, rfl, hg1, hg2⟩ := HTC.out k ts[k] (List.getElem?_eq_getElem hlt)
              have hbw : Below w.heap.size w wr := HS4.out.2.1.trans (HR.out.2.mono HS4.out.2.1.size)
              have k1 := cell_keep hbw hg1
              have k2 := cell_keep hbw hg2
              have hki : (k : Int) < (ts.length : Int) := by omega
              have hg0 : g < wr.heap.size := World.block_lt_of_cell? wr ⟨g, k * 2, none⟩ k1
              have hgn : ¬ g = wr.heap.size := by omega
              have htk : ts[k]? = some ts[k] := List.getElem?_eq_getElem hlt
              generalize ts[k] = t at *
              go_wp2_with fail
              obtain ⟨w1, hw1⟩ : ∃ W : World, W = wr.alloc (.cells #[.int .i64 t.1, .int .i64 t.2] 47) := ⟨_, rfl⟩
              have hb47 : w1.heap[wr.heap.size]? = some (.cells #[.int .i64 t.1, .int .i64 t.2] 47) := by rw [hw1]; exact World.alloc_heap_new wr _
              have e0 : w1.cell? ⟨wr.heap.size, 0, none⟩ = some (.int .i64 t.1) := by rw [hw1]; simp
              have e1 : w1.cell? ⟨wr.heap.size, 1, none⟩ = some (.int .i64 t.2) := by rw [hw1]; simp
              have z1 : w1.heap.size = wr.heap.size + 1 := by rw [hw1]; simp
              have x0 : ∀ W, SX W4 wr.heap.size t W → W.cell? ⟨wr.heap.size, 0, none⟩ = some (.int .i64 t.1) := fun W hb => hb.2.1
              have x1 : ∀ W, SX W4 wr.heap.size t W → W.cell? ⟨wr.heap.size, 1, none⟩ = some (.int .i64 t.2) := fun W hb => hb.2.2
              have HR1 : Hid (w1.ownsRow W4.heap.size 9 1 u8 k (((ts.take k).map ckt).map Value.string) ∧ Below W4.heap.size W4 w1 ∧ wr.heap.size ≤ w1.heap.size) := by
                refine ⟨?_, ?_, by omega⟩
                · rw [hw1]; exact HR.out.1.alloc _
                · rw [hw1]; exact HR.out.2.alloc HR.out.2.size _
              have hnr : u8.ownBlock ≠ some wr.heap.size := by
                rcases HR1.out.1.2 with ⟨h, _⟩ | ⟨g', cap', cur, h, _, hg', _⟩
                · rw [h]; simp [Value.ownBlock]
                · intro e
                  rw [h] at e
                  have : g' = wr.heap.size := by simpa [Value.ownBlock] using e
                  rw [this, hb47] at hg'
                  cases hg'
              have HSX : Hid (SX W4 wr.heap.size t w1 ∧ u8.ownBlock ≠ some wr.heap.size) := ⟨⟨HR1.out.2.1, e0, e1⟩, hnr⟩
              rw [← hw1]
              clear hw1 e0 e1 k1 k2 hg0 hgn hg1 hg2 z1 hb47 hnr
              have cbl : ∀ m, (cb m).length = 4 := fun m => rfl
              refine wp_region_held_drew (S := fun w' => SX W4 wr.heap.size t w') (by kernel_rfl) (HSX.out.1.below (Below.refl _ _).drew) (fun hHeld => ?_)
              refine wpAnyH_take (i := 0) (v := ?v0_89) rfl (by kernel_rfl) (by kernel_rfl) (by kernel_rfl) (fun _ _ _ h => h) (Or.inl ⟨by rfl, ?y0_89⟩) (by assumption) ?r0_89
              case y0_89 => intro w hSw; go_simp; try with_reducible rfl
              simp only [List.getElem_toArray, List.getElem_cons_succ, List.getElem_cons_zero, Act.put, List.setIfInBounds_toArray, List.set_cons_zero, List.set_cons_succ]
              refine wpAnyH_take (i := 1) (v := ?v1_90) rfl (by kernel_rfl) (by kernel_rfl) (by kernel_rfl) (fun _ _ _ h => h) (Or.inl ⟨by rfl, ?y1_90⟩) (by assumption) ?r1_90
              case y1_90 => intro w hSw; go_simp; try with_reducible rfl
              simp only [List.getElem_toArray, List.getElem_cons_succ, List.getElem_cons_zero, Act.put, List.setIfInBounds_toArray, List.set_cons_zero, List.set_cons_succ]
              refine wpAnyH_take (i := 2) (v := ?v2_91) rfl (by kernel_rfl) (by kernel_rfl) (by kernel_rfl) (fun _ _ _ h => h) (Or.inl ⟨by rfl, ?y2_91⟩) (by assumption) ?r2_91
              case y2_91 => intro w hSw; go_simp; try with_reducible rfl
              simp only [List.getElem_toArray, List.getElem_cons_succ, List.getElem_cons_zero, Act.put, List.setIfInBounds_toArray, List.set_cons_zero, List.set_cons_succ]
              refine wpAnyH_take (i := 5) (v := ?v5_92) rfl (by kernel_rfl) (by kernel_rfl) (by kernel_rfl) (fun _ _ _ h => h) (Or.inl ⟨by rfl, ?y5_92⟩) (by assumption) ?r5_92
              case y5_92 => intro w hSw; go_simp; try with_reducible rfl
              simp only [List.getElem_toArray, List.getElem_cons_succ, List.getElem_cons_zero, Act.put, List.setIfInBounds_toArray, List.set_cons_zero, List.set_cons_succ]
              refine wpAnyH_take (i := 6) (v := ?v6_93) rfl (by kernel_rfl) (by kernel_rfl) (by kernel_rfl) (fun _ _ _ h => h) (Or.inl ⟨by rfl, ?y6_93⟩) (by assumption) ?r6_93
              case y6_93 => intro w hSw; go_simp; try with_reducible rfl
              simp only [List.getElem_toArray, List.getElem_cons_succ, List.getElem_cons_zero, Act.put, List.setIfInBounds_toArray, List.set_cons_zero, List.set_cons_succ]
              refine wpAnyH_ready (rs := [3]) (by kernel_rfl) (by simp) ?_
              refine AllReadyH.cons rfl (fun K hK => ?_) AllReadyH.nil
              go_simp
              refine (clockText_any t.1 _).mono ?_
              rintro e w2 ⟨rfl, hb2⟩
              have hh2 : Below w1.heap.size w1 w2 := ((Below.refl w1.heap.size w1).drew).trans hb2
              refine hK.out _ _ (HSX.out.1.below hh2) (fun hH3 => ?_)
              clear hK K hb2
              refine wpAnyH_take (i := 4) (v := ?v4_94) rfl (by kernel_rfl) (by kernel_rfl) (by kernel_rfl) (fun _ _ _ h => h) (Or.inl ⟨by rfl, ?y4_94⟩) (by assumption) ?r4_94
              case y4_94 => intro w hSw; go_simp; try with_reducible rfl
              simp only [List.getElem_toArray, List.getElem_cons_succ, List.getElem_cons_zero, Act.put, List.setIfInBounds_toArray, List.set_cons_zero, List.set_cons_succ]
              refine wpAnyH_ready (rs := [7]) (by kernel_rfl) (by simp) ?_
              refine AllReadyH.cons rfl (fun K hK => ?_) AllReadyH.nil
              go_simp
              refine (clockText_any t.2 _).mono ?_
              rintro e w3 ⟨rfl, hb3⟩
              have hh3 : Below w1.heap.size w1 w3 := hh2.trans (hb3.mono hh2.size)
              refine hK.out _ _ (HSX.out.1.below hh3) (fun hH7 => ?_)
              clear hK K hb3
              refine wpAnyH_take (i := 8) (v := ?v8_95) rfl (by kernel_rfl) (by kernel_rfl) (by kernel_rfl) (fun _ _ _ h => h) (Or.inl ⟨by rfl, ?y8_95⟩) (by assumption) ?r8_95
              case y8_95 => intro w hSw; go_simp; try with_reducible rfl
              simp only [List.getElem_toArray, List.getElem_cons_succ, List.getElem_cons_zero, Act.put, List.setIfInBounds_toArray, List.set_cons_zero, List.set_cons_succ]
              refine wpAnyH_ready (rs := [9]) (by kernel_rfl) (by simp) ?_
              refine AllReadyH.cons rfl (fun K hK => ?_) AllReadyH.nil
              go_simp
              obtain ⟨w4, hw4⟩ : ∃ W : World, W = w3.alloc (.cells #[.string (⟨(cb t.1).toArray⟩ ++ ⟨#[45]⟩ ++ ⟨(cb t.2).toArray⟩)] 9) := ⟨_, rfl⟩
              have hh4 : Below w1.heap.size w1 w4 := by rw [hw4]; exact hh3.alloc hh3.size _
              have c4 : w4.cell? ⟨w3.heap.size, 0, none⟩ = some (.string (⟨(cb t.1).toArray⟩ ++ ⟨#[45]⟩ ++ ⟨(cb t.2).toArray⟩)) := by rw [hw4]; simp
              rw [← hw4]
              clear hw4
              refine hK.out _ _ (HSX.out.1.below hh4) (fun hH9 => ?_)
              clear hK K
              refine wpAnyH_ready (rs := [10]) (by kernel_rfl) (by simp) ?_
              refine AllReadyH.cons rfl (fun K hK => ?_) AllReadyH.nil
              refine app65 w4 (by rfl) _ _ (by rfl) W4.heap.size u8 k _ (by rfl) (own_below HR1.out.1 hh4 (Nat.le_refl _)) w3.heap.size 1 (.string (⟨(cb t.1).toArray⟩ ++ ⟨#[45]⟩ ++ ⟨(cb t.2).toArray⟩)) (by rfl) c4 rfl (by omega) (Nat.le_trans HR1.out.2.1.size hh4.size) ?_
              intro g' cap' w5 hown5 hgrow5 hat5 hlt5
              simp only [List.getElem_toArray, List.getElem_cons_succ, List.getElem_cons_zero, Act.put, List.setIfInBounds_toArray, List.set_cons_zero, List.set_cons_succ]
              have hS5 : SX W4 wr.heap.size t w5 := (HSX.out.1.below hh4).grown (own_below HR1.out.1 hh4 (Nat.le_refl _)) hgrow5 HSX.out.2
              refine hK.out _ _ hS5 (fun hH10 => ?_)
              clear hK K
              refine wpAnyH_take (i := 11) (v := ?v11_96) rfl (by kernel_rfl) (by kernel_rfl) (by kernel_rfl) (fun _ _ _ h => h) (Or.inl ⟨by rfl, ?y11_96⟩) (by assumption) ?r11_96
              case y11_96 => intro w hSw; go_simp; try with_reducible rfl
              simp only [List.getElem_toArray, List.getElem_cons_succ, List.getElem_cons_zero, Act.put, List.setIfInBounds_toArray, List.set_cons_zero, List.set_cons_succ]
              refine wpAnyH_done (by kernel_rfl) ?_ _
              have HN5 : Hid (w5.ownsRow W4.heap.size 9 1 (.slice (some ⟨g', 0, none⟩) (k + 1) cap') (k + 1) (((ts.take (k + 1)).map ckt).map Value.string) ∧ Below W4.heap.size W4 w5) := by
                refine ⟨?_, hS5.1⟩
                rw [List.take_add_one, htk]
                simp only [Option.toList_some, List.map_append, List.map_cons, List.map_nil]
                exact hown5
              clear hown5 hS5 hgrow5 hat5 hlt5 c4 hh4 hh3 hh2 hH10 hH9 hH7 hH3 hHeld x0 x1
              have hwk : IntKind.i64.wrap ((k : Int) + 1) = (k : Int) + 1 := by rw [IntKind.wrap_i64]; omega
              go_wp2_with fail
              go_roundw
              case rel => exact ⟨k + 1, by simp, by omega, HN5⟩
              case measure => simp [intOf]; omega
            · obtain rfl : k = ts.length := by omega
              have hrow := HR.out.1
              rw [List.take_length, ← List.length_map (f := ckt)] at hrow
              have hbl := HR.out.2
              have hi4 := isBuilder_below HS4.out.1 hbl
              have cw4 := writeSet_none w.heap.size w.heap.size W4.heap.size l4 u8 (ts.map ckt) wr hi4 hrow (by have := hbl.size; have := HS4.out.2.1.size; omega) (by have := HS4.out.2.2; omega) (by have := (HOK4.out).j; omega) (by have := (HOK4.out).n; omega)
              have HV4 : Hid (Below w.heap.size w wr) := HS4.out.2.1.trans (hbl.mono HS4.out.2.1.size)
              clear hrow hbl hi4
              go_wp2_with fail
              refine cw4.mono ?_
              rintro e W5 ⟨rfl, hI5, hB5⟩
              obtain ⟨l5, hl5⟩ : ∃ l, l = l4 ++ sg4 ts := ⟨_, rfl⟩
              have HS5 : Hid (Lib.IsBuilder 58 5 w.heap.size w.heap.size (Lib.byteCells l5) W5 ∧ Below w.heap.size w W5 ∧ l5.length ≤ 20000000009) := by
                refine ⟨?_, HV4.out.trans hB5, ?_⟩
                · rw [hl5]; exact hI5
                · rw [hl5, List.length_append]
                  have h1 := HS4.out.2.2
                  have h2 := (HOK4.out).s
                  have h3 : (sg4 ts).length ≤ 4000000001 := h2
                  omega
              have HL5 : Hid (l5 = l4 ++ (if x.testBit 4 then sg4 ts else [])) := by
                show l5 = _
                rw [t4, if_pos rfl]; exact hl5
              clear hI5 hB5 hl5 cw4
              have h59 := writeByte_any w.heap.size w.heap.size (Lib.byteCells l5) 59 W5 HS5.out.1 (by rw [Lib.byteCells_length]; have := HS5.out.2.2; omega) HS5.out.2.1.size
              have h59' : Calls Tryf.prog 30 #[.pointer (some ⟨w.heap.size, 0, none⟩), .int .u8 59] W5 fun e w' => e = .returned .nilIface ∧ Lib.BuilderAt 58 5 w.heap.size w.heap.size (.pointer (some ⟨w.heap.size, 0, none⟩)) (Lib.byteCells l5 ++ [.int .u8 59]) w' ∧ Below w.heap.size W5 w' ∧ KT w.heap.size W5 w' := h59
              clear h59
              go_wp2_with fail
              refine h59'.mono ?_
              rintro e W6 ⟨rfl, hI6, hB6, _⟩
              have hI6' : Lib.IsBuilder 58 5 w.heap.size w.heap.size (Lib.byteCells (l5 ++ [59])) W6 := .inr (by
                have e : Lib.byteCells (l5 ++ [59]) = Lib.byteCells l5 ++ [.int .u8 59] := by simp [Lib.byteCells]
                rw [e]; exact hI6)
              have hst := Tryf.Builder_String_any w.heap.size w.heap.size (l5 ++ [59]) W6 hI6' (Nat.le_trans HS5.out.2.1.size hB6.size)
              have HB6 : Hid (Below w.heap.size w W6) := HS5.out.2.1.trans hB6
              clear h59' hI6 hI6' hB6
              go_wp2_with fail
              refine hst.mono ?_
              rintro e W7 ⟨rfl, hB7⟩
              go_wp2_with fail
              go_ret
              refine ⟨?_, HB6.out.trans hB7⟩
              have hl : l5 ++ [59] = itemL mo s wd ts x := by
                rw [HL5.out, HL4.out, HL3.out, HL2.out, HL1.out, HL0.out]
                rfl
              rw [hl]
              rfl
    · have hh1 := has_any x hx 1 (by omega) W1
      rw [t1] at hh1
      go_wp2_with fail
      refine hh1.mono ?_
      rintro e w' ⟨rfl, hw⟩
      subst w'
      clear hh1
      have HOK1 : Hid (Ok [109, 111, 110, 116, 104] ((runsOf (mAcc mo 12)).map (txt nmI))) := ok0 (mAcc mo 12) (mAcc_lt mo 12 (by omega)) [109, 111, 110, 116, 104] (by simp)
      have ct1 := texts_int (F := F) (mAcc mo 12) (mAcc_lt mo 12 (by omega)) W1 (HE.out.below HS1.out.2.1)
      go_wp2_with fail
      refine ct1.mono ?_
      rintro e V1 ⟨v1, rfl, hr1, hbv1⟩
      clear ct1
      rw [← List.length_map (f := txt nmI)] at hr1
      have hi1 := isBuilder_below HS1.out.1 hbv1
      have cw1 := writeSet_word w.heap.size w.heap.size W1.heap.size l1 ⟨#[109, 111, 110, 116, 104]⟩ v1 ((runsOf (mAcc mo 12)).map (txt nmI)) V1 hi1 hr1 (by have := hbv1.size; have := HS1.out.2.1.size; omega) (by decide +kernel) (by decide) (by decide) (by have := HS1.out.2.2; omega) (by have := (HOK1.out).j; omega) (by have := (HOK1.out).n; omega)
      have hbB1 : Below w.heap.size w V1 := HS1.out.2.1.trans (hbv1.mono HS1.out.2.1.size)
      have HV1 : Hid (Below w.heap.size w V1) := hbB1
      clear hbB1 hr1 hi1 hbv1
      go_wp2_with fail
      refine cw1.mono ?_
      rintro e W2 ⟨rfl, hI2, hB2⟩
      obtain ⟨l2, hl2⟩ : ∃ l, l = l1 ++ sg1 mo := ⟨_, rfl⟩
      have HS2 : Hid (Lib.IsBuilder 58 5 w.heap.size w.heap.size (Lib.byteCells l2) W2 ∧ Below w.heap.size w W2 ∧ l2.length ≤ 8000000006) := by
        refine ⟨?_, HV1.out.trans hB2, ?_⟩
        · rw [hl2]; exact hI2
        · rw [hl2, List.length_append]
          have h1 := HS1.out.2.2
          have h2 := (HOK1.out).s
          have h3 : (sg1 mo).length ≤ 4000000001 := h2
          omega
      have HL2 : Hid (l2 = l1 ++ (if x.testBit 1 then sg1 mo else [])) := by
        show l2 = _
        rw [t1, if_pos rfl]; exact hl2
      clear hI2 hB2 hl2 cw1
      cases t2 : x.testBit 2
      · have hh2 := has_any x hx 2 (by omega) W2
        rw [t2] at hh2
        go_wp2_with fail
        refine hh2.mono ?_
        rintro e w' ⟨rfl, hw⟩
        subst w'
        clear hh2
        obtain ⟨W3, hW3⟩ : ∃ W, W = W2 := ⟨_, rfl⟩
        obtain ⟨l3, hl3⟩ : ∃ l, l = l2 := ⟨_, rfl⟩
        have HS3 : Hid (Lib.IsBuilder 58 5 w.heap.size w.heap.size (Lib.byteCells l3) W3 ∧ Below w.heap.size w W3 ∧ l3.length ≤ 12000000007) := by
          rw [hW3, hl3]
          exact ⟨HS2.out.1, HS2.out.2.1, by have := HS2.out.2.2; omega⟩
        have HL3 : Hid (l3 = l2 ++ (if x.testBit 2 then sg2 s else [])) := by
          show l3 = _
          rw [t2, hl3]; simp
        rw [← hW3]
        clear hW3 hl3
        cases t3 : x.testBit 3
        · have hh3 := has_any x hx 3 (by omega) W3
          rw [t3] at hh3
          go_wp2_with fail
          refine hh3.mono ?_
          rintro e w' ⟨rfl, hw⟩
          subst w'
          clear hh3
          obtain ⟨W4, hW4⟩ : ∃ W, W = W3 := ⟨_, rfl⟩
          obtain ⟨l4, hl4⟩ : ∃ l, l = l3 := ⟨_, rfl⟩
          have HS4 : Hid (Lib.IsBuilder 58 5 w.heap.size w.heap.size (Lib.byteCells l4) W4 ∧ Below w.heap.size w W4 ∧ l4.length ≤ 16000000008) := by
            rw [hW4, hl4]
            exact ⟨HS3.out.1, HS3.out.2.1, by have := HS3.out.2.2; omega⟩
          have HL4 : Hid (l4 = l3 ++ (if x.testBit 3 then sg3 wd else [])) := by
            show l4 = _
            rw [t3, hl4]; simp
          rw [← hW4]
          clear hW4 hl4
          cases t4 : x.testBit 4
          · have hh4 := has_any x hx 4 (by omega) W4
            rw [t4] at hh4
            go_wp2_with fail
            refine hh4.mono ?_
            rintro e w' ⟨rfl, hw⟩
            subst w'
            clear hh4
            obtain ⟨W5, hW5⟩ : ∃ W, W = W4 := ⟨_, rfl⟩
            obtain ⟨l5, hl5⟩ : ∃ l, l = l4 := ⟨_, rfl⟩
            have HS5 : Hid (Lib.IsBuilder 58 5 w.heap.size w.heap.size (Lib.byteCells l5) W5 ∧ Below w.heap.size w W5 ∧ l5.length ≤ 20000000009) := by
              rw [hW5, hl5]
              exact ⟨HS4.out.1, HS4.out.2.1, by have := HS4.out.2.2; omega⟩
            have HL5 : Hid (l5 = l4 ++ (if x.testBit 4 then sg4 ts else [])) := by
              show l5 = _
              rw [t4, hl5]; simp
            rw [← hW5]
            clear hW5 hl5
            have h59 := writeByte_any w.heap.size w.heap.size (Lib.byteCells l5) 59 W5 HS5.out.1 (by rw [Lib.byteCells_length]; have := HS5.out.2.2; omega) HS5.out.2.1.size
            have h59' : Calls Tryf.prog 30 #[.pointer (some ⟨w.heap.size, 0, none⟩), .int .u8 59] W5 fun e w' => e = .returned .nilIface ∧ Lib.BuilderAt 58 5 w.heap.size w.heap.size (.pointer (some ⟨w.heap.size, 0, none⟩)) (Lib.byteCells l5 ++ [.int .u8 59]) w' ∧ Below w.heap.size W5 w' ∧ KT w.heap.size W5 w' := h59
            clear h59
            go_wp2_with fail
            refine h59'.mono ?_
            rintro e W6 ⟨rfl, hI6, hB6, _⟩
            have hI6' : Lib.IsBuilder 58 5 w.heap.size w.heap.size (Lib.byteCells (l5 ++ [59])) W6 := .inr (by
              have e : Lib.byteCells (l5 ++ [59]) = Lib.byteCells l5 ++ [.int .u8 59] := by simp [Lib.byteCells]
              rw [e]; exact hI6)
            have hst := Tryf.Builder_String_any w.heap.size w.heap.size (l5 ++ [59]) W6 hI6' (Nat.le_trans HS5.out.2.1.size hB6.size)
            have HB6 : Hid (Below w.heap.size w W6) := HS5.out.2.1.trans hB6
            clear h59' hI6 hI6' hB6
            go_wp2_with fail
            refine hst.mono ?_
            rintro e W7 ⟨rfl, hB7⟩
            go_wp2_with fail
            go_ret
            refine ⟨?_, HB6.out.trans hB7⟩
            have hl : l5 ++ [59] = itemL mo s wd ts x := by
              rw [HL5.out, HL4.out, HL3.out, HL2.out, HL1.out, HL0.out]
              rfl
            rw [hl]
            rfl
          · have hh4 := has_any x hx 4 (by omega) W4
            rw [t4] at hh4
            go_wp2_with fail
            refine hh4.mono ?_
            rintro e w' ⟨rfl, hw⟩
            subst w'
            clear hh4
            have HOK4 : Hid (Ok [] (ts.map ckt)) := ok4 ts hts
            obtain ⟨ao, cap, htv, _, htc⟩ := HC.out.tm
            have r4 := (HC.out.below HS4.out.2.1).c4
            rw [htv] at r4
            have HTC : Hid (∀ (j : Nat) (t : Int × Int), ts[j]? = some t → ∃ g, ao = some ⟨g, 0, none⟩ ∧ w.cell? ⟨g, j * 2, none⟩ = some (.int .i64 t.1) ∧ w.cell? ⟨g, j * 2 + 1, none⟩ = some (.int .i64 t.2)) := htc
            clear htc htv
            go_wp2_with fail
            clear r4
            go_loopw [8, 60] (fun v i wr => ∃ k : Nat, i = .int .i64 (k : Int) ∧ k ≤ ts.length ∧ Hid (wr.ownsRow W4.heap.size 9 1 v k (((ts.take k).map ckt).map Value.string) ∧ Below W4.heap.size W4 wr)) (fun _ i _ => ts.length - (intOf i).toNat)
            case atStart => exact ⟨0, rfl, by omega, World.ownsRow_nil _ _ _ _, Below.refl _ _⟩
            case round =>
            obtain ⟨k, rfl, hk, HR⟩ := hrel
            by_cases hlt : k < ts.length
            · have hlt1 : decide ((k : Int) < (ts.length : Int)) = true := by simp; omega
              obtain ⟨g, rfl, hg1, hg2⟩ := HTC.out k ts[k] (List.getElem?_eq_getElem hlt)
              have hbw : Below w.heap.size w wr := HS4.out.2.1.trans (HR.out.2.mono HS4.out.2.1.size)
              have k1 := cell_keep hbw hg1
              have k2 := cell_keep hbw hg2
              have hki : (k : Int) < (ts.length : Int) := by omega
              have hg0 : g < wr.heap.size := World.block_lt_of_cell? wr ⟨g, k * 2, none⟩ k1
              have hgn : ¬ g = wr.heap.size := by omega
              have htk : ts[k]? = some ts[k] := List.getElem?_eq_getElem hlt
              generalize ts[k] = t at *
              go_wp2_with fail
              obtain ⟨w1, hw1⟩ : ∃ W : World, W = wr.alloc (.cells #[.int .i64 t.1, .int .i64 t.2] 47) := ⟨_, rfl⟩
              have hb47 : w1.heap[wr.heap.size]? = some (.cells #[.int .i64 t.1, .int .i64 t.2] 47) := by rw [hw1]; exact World.alloc_heap_new wr _
              have e0 : w1.cell? ⟨wr.heap.size, 0, none⟩ = some (.int .i64 t.1) := by rw [hw1]; simp
              have e1 : w1.cell? ⟨wr.heap.size, 1, none⟩ = some (.int .i64 t.2) := by rw [hw1]; simp
              have z1 : w1.heap.size = wr.heap.size + 1 := by rw [hw1]; simp
              have x0 : ∀ W, SX W4 wr.heap.size t W → W.cell? ⟨wr.heap.size, 0, none⟩ = some (.int .i64 t.1) := fun W hb => hb.2.1
              have x1 : ∀ W, SX W4 wr.heap.size t W → W.cell? ⟨wr.heap.size, 1, none⟩ = some (.int .i64 t.2) := fun W hb => hb.2.2
              have HR1 : Hid (w1.ownsRow W4.heap.size 9 1 u8 k (((ts.take k).map ckt).map Value.string) ∧ Below W4.heap.size W4 w1 ∧ wr.heap.size ≤ w1.heap.size) := by
                refine ⟨?_, ?_, by omega⟩
                · rw [hw1]; exact HR.out.1.alloc _
                · rw [hw1]; exact HR.out.2.alloc HR.out.2.size _
              have hnr : u8.ownBlock ≠ some wr.heap.size := by
                rcases HR1.out.1.2 with ⟨h, _⟩ | ⟨g', cap', cur, h, _, hg', _⟩
                · rw [h]; simp [Value.ownBlock]
                · intro e
                  rw [h] at e
                  have : g' = wr.heap.size := by simpa [Value.ownBlock] using e
                  rw [this, hb47] at hg'
                  cases hg'
              have HSX : Hid (SX W4 wr.heap.size t w1 ∧ u8.ownBlock ≠ some wr.heap.size) := ⟨⟨HR1.out.2.1, e0, e1⟩, hnr⟩
              rw [← hw1]
              clear hw1 e0 e1 k1 k2 hg0 hgn hg1 hg2 z1 hb47 hnr
              have cbl : ∀ m, (cb m).length = 4 := fun m => rfl
              refine wp_region_held_drew (S := fun w' => SX W4 wr.heap.size t w') (by kernel_rfl) (HSX.out.1.below (Below.refl _ _).drew) (fun hHeld => ?_)
              refine wpAnyH_take (i := 0) (v := ?v0_97) rfl (by kernel_rfl) (by kernel_rfl) (by kernel_rfl) (fun _ _ _ h => h) (Or.inl ⟨by rfl, ?y0_97⟩) (by assumption) ?r0_97
              case y0_97 => intro w hSw; go_simp; try with_reducible rfl
              simp only [List.getElem_toArray, List.getElem_cons_succ, List.getElem_cons_zero, Act.put, List.setIfInBounds_toArray, List.set_cons_zero, List.set_cons_succ]
              refine wpAnyH_take (i := 1) (v := ?v1_98) rfl (by kernel_rfl) (by kernel_rfl) (by kernel_rfl) (fun _ _ _ h => h) (Or.inl ⟨by rfl, ?y1_98⟩) (by assumption) ?r1_98
              case y1_98 => intro w hSw; go_simp; try with_reducible rfl
              simp only [List.getElem_toArray, List.getElem_cons_succ, List.getElem_cons_zero, Act.put, List.setIfInBounds_toArray, List.set_cons_zero, List.set_cons_succ]
              refine wpAnyH_take (i := 2) (v := ?v2_99) rfl (by kernel_rfl) (by kernel_rfl) (by kernel_rfl) (fun _ _ _ h => h) (Or.inl ⟨by rfl, ?y2_99⟩) (by assumption) ?r2_99
              case y2_99 => intro w hSw; go_simp; try with_reducible rfl
              simp only [List.getElem_toArray, List.getElem_cons_succ, List.getElem_cons_zero, Act.put, List.setIfInBounds_toArray, List.set_cons_zero, List.set_cons_succ]
              refine wpAnyH_take (i := 5) (v := ?v5_100) rfl (by kernel_rfl) (by kernel_rfl) (by kernel_rfl) (fun _ _ _ h => h) (Or.inl ⟨by rfl, ?y5_100⟩) (by assumption) ?r5_100
              case y5_100 => intro w hSw; go_simp; try with_reducible rfl
              simp only [List.getElem_toArray, List.getElem_cons_succ, List.getElem_cons_zero, Act.put, List.setIfInBounds_toArray, List.set_cons_zero, List.set_cons_succ]
              refine wpAnyH_take (i := 6) (v := ?v6_101) rfl (by kernel_rfl) (by kernel_rfl) (by kernel_rfl) (fun _ _ _ h => h) (Or.inl ⟨by rfl, ?y6_101⟩) (by assumption) ?r6_101
              case y6_101 => intro w hSw; go_simp; try with_reducible rfl
              simp only [List.getElem_toArray, List.getElem_cons_succ, List.getElem_cons_zero, Act.put, List.setIfInBounds_toArray, List.set_cons_zero, List.set_cons_succ]
              refine wpAnyH_ready (rs := [3]) (by kernel_rfl) (by simp) ?_
              refine AllReadyH.cons rfl (fun K hK => ?_) AllReadyH.nil
              go_simp
              refine (clockText_any t.1 _).mono ?_
              rintro e w2 ⟨rfl, hb2⟩
              have hh2 : Below w1.heap.size w1 w2 := ((Below.refl w1.heap.size w1).drew).trans hb2
              refine hK.out _ _ (HSX.out.1.below hh2) (fun hH3 => ?_)
              clear hK K hb2
              refine wpAnyH_take (i := 4) (v := ?v4_102) rfl (by kernel_rfl) (by kernel_rfl) (by kernel_rfl) (fun _ _ _ h => h) (Or.inl ⟨by rfl, ?y4_102⟩) (by assumption) ?r4_102
              case y4_102 => intro w hSw; go_simp; try with_reducible rfl
              simp only [List.getElem_toArray, List.getElem_cons_succ, List.getElem_cons_zero, Act.put, List.setIfInBounds_toArray, List.set_cons_zero, List.set_cons_succ]
              refine wpAnyH_ready (rs := [7]) (by kernel_rfl) (by simp) ?_
              refine AllReadyH.cons rfl (fun K hK => ?_) AllReadyH.nil
              go_simp
              refine (clockText_any t.2 _).mono ?_
              rintro e w3 ⟨rfl, hb3⟩
              have hh3 : Below w1.heap.size w1 w3 := hh2.trans (hb3.mono hh2.size)
              refine hK.out _ _ (HSX.out.1.below hh3) (fun hH7 => ?_)
              clear hK K hb3
              refine wpAnyH_take (i := 8) (v := ?v8_103) rfl (by kernel_rfl) (by kernel_rfl) (by kernel_rfl) (fun _ _ _ h => h) (Or.inl ⟨by rfl, ?y8_103⟩) (by assumption) ?r8_103
              case y8_103 => intro w hSw; go_simp; try with_reducible rfl
              simp only [List.getElem_toArray, List.getElem_cons_succ, List.getElem_cons_zero, Act.put, List.setIfInBounds_toArray, List.set_cons_zero, List.set_cons_succ]
              refine wpAnyH_ready (rs := [9]) (by kernel_rfl) (by simp) ?_
              refine AllReadyH.cons rfl (fun K hK => ?_) AllReadyH.nil
              go_simp
              obtain ⟨w4, hw4⟩ : ∃ W : World, W = w3.alloc (.cells #[.string (⟨(cb t.1).toArray⟩ ++ ⟨#[45]⟩ ++ ⟨(cb t.2).toArray⟩)] 9) := ⟨_, rfl⟩
              have hh4 : Below w1.heap.size w1 w4 := by rw [hw4]; exact hh3.alloc hh3.size _
              have c4 : w4.cell? ⟨w3.heap.size, 0, none⟩ = some (.string (⟨(cb t.1).toArray⟩ ++ ⟨#[45]⟩ ++ ⟨(cb t.2).toArray⟩)) := by rw [hw4]; simp
              rw [← hw4]
              clear hw4
              refine hK.out _ _ (HSX.out.1.below hh4) (fun hH9 => ?_)
              clear hK K
              refine wpAnyH_ready (rs := [10]) (by kernel_rfl) (by simp) ?_
              refine AllReadyH.cons rfl (fun K hK => ?_) AllReadyH.nil
              refine app65 w4 (by rfl) _ _ (by rfl) W4.heap.size u8 k _ (by rfl) (own_below HR1.out.1 hh4 (Nat.le_refl _)) w3.heap.size 1 (.string (⟨(cb t.1).toArray⟩ ++ ⟨#[45]⟩ ++ ⟨(cb t.2).toArray⟩)) (by rfl) c4 rfl (by omega) (Nat.le_trans HR1.out.2.1.size hh4.size) ?_
              intro g' cap' w5 hown5 hgrow5 hat5 hlt5
              simp only [List.getElem_toArray, List.getElem_cons_succ, List.getElem_cons_zero, Act.put, List.setIfInBounds_toArray, List.set_cons_zero, List.set_cons_succ]
              have hS5 : SX W4 wr.heap.size t w5 := (HSX.out.1.below hh4).grown (own_below HR1.out.1 hh4 (Nat.le_refl _)) hgrow5 HSX.out.2
              refine hK.out _ _ hS5 (fun hH10 => ?_)
              clear hK K
              refine wpAnyH_take (i := 11) (v := ?v11_104) rfl (by kernel_rfl) (by kernel_rfl) (by kernel_rfl) (fun _ _ _ h => h) (Or.inl ⟨by rfl, ?y11_104⟩) (by assumption) ?r11_104
              case y11_104 => intro w hSw; go_simp; try with_reducible rfl
              simp only [List.getElem_toArray, List.getElem_cons_succ, List.getElem_cons_zero, Act.put, List.setIfInBounds_toArray, List.set_cons_zero, List.set_cons_succ]
              refine wpAnyH_done (by kernel_rfl) ?_ _
              have HN5 : Hid (w5.ownsRow W4.heap.size 9 1 (.slice (some ⟨g', 0, none⟩) (k + 1) cap') (k + 1) (((ts.take (k + 1)).map ckt).map Value.string) ∧ Below W4.heap.size W4 w5) := by
                refine ⟨?_, hS5.1⟩
                rw [List.take_add_one, htk]
                simp only [Option.toList_some, List.map_append, List.map_cons, List.map_nil]
                exact hown5
              clear hown5 hS5 hgrow5 hat5 hlt5 c4 hh4 hh3 hh2 hH10 hH9 hH7 hH3 hHeld x0 x1
              have hwk : IntKind.i64.wrap ((k : Int) + 1) = (k : Int) + 1 := by rw [IntKind.wrap_i64]; omega
              go_wp2_with fail
              go_roundw
              case rel => exact ⟨k + 1, by simp, by omega, HN5⟩
              case measure => simp [intOf]; omega
            · obtain rfl : k = ts.length := by omega
              have hrow := HR.out.1
              rw [List.take_length, ← List.length_map (f := ckt)] at hrow
              have hbl := HR.out.2
              have hi4 := isBuilder_below HS4.out.1 hbl
              have cw4 := writeSet_none w.heap.size w.heap.size W4.heap.size l4 u8 (ts.map ckt) wr hi4 hrow (by have := hbl.size; have := HS4.out.2.1.size; omega) (by have := HS4.out.2.2; omega) (by have := (HOK4.out).j; omega) (by have := (HOK4.out).n; omega)
              have HV4 : Hid (Below w.heap.size w wr) := HS4.out.2.1.trans (hbl.mono HS4.out.2.1.size)
              clear hrow hbl hi4
              go_wp2_with fail
              refine cw4.mono ?_
              rintro e W5 ⟨rfl, hI5, hB5⟩
              obtain ⟨l5, hl5⟩ : ∃ l, l = l4 ++ sg4 ts := ⟨_, rfl⟩
              have HS5 : Hid (Lib.IsBuilder 58 5 w.heap.size w.heap.size (Lib.byteCells l5) W5 ∧ Below w.heap.size w W5 ∧ l5.length ≤ 20000000009) := by
                refine ⟨?_, HV4.out.trans hB5, ?_⟩
                · rw [hl5]; exact hI5
                · rw [hl5, List.length_append]
                  have h1 := HS4.out.2.2
                  have h2 := (HOK4.out).s
                  have h3 : (sg4 ts).length ≤ 4000000001 := h2
                  omega
              have HL5 : Hid (l5 = l4 ++ (if x.testBit 4 then sg4 ts else [])) := by
                show l5 = _
                rw [t4, if_pos rfl]; exact hl5
              clear hI5 hB5 hl5 cw4
              have h59 := writeByte_any w.heap.size w.heap.size (Lib.byteCells l5) 59 W5 HS5.out.1 (by rw [Lib.byteCells_length]; have := HS5.out.2.2; omega) HS5.out.2.1.size
              have h59' : Calls Tryf.prog 30 #[.pointer (some ⟨w.heap.size, 0, none⟩), .int .u8 59] W5 fun e w' => e = .returned .nilIface ∧ Lib.BuilderAt 58 5 w.heap.size w.heap.size (.pointer (some ⟨w.heap.size, 0, none⟩)) (Lib.byteCells l5 ++ [.int .u8 59]) w' ∧ Below w.heap.size W5 w' ∧ KT w.heap.size W5 w' := h59
              clear h59
              go_wp2_with fail
              refine h59'.mono ?_
              rintro e W6 ⟨rfl, hI6, hB6, _⟩
              have hI6' : Lib.IsBuilder 58 5 w.heap.size w.heap.size (Lib.byteCells (l5 ++ [59])) W6 := .inr (by
                have e : Lib.byteCells (l5 ++ [59]) = Lib.byteCells l5 ++ [.int .u8 59] := by simp [Lib.byteCells]
                rw [e]; exact hI6)
              have hst := Tryf.Builder_String_any w.heap.size w.heap.size (l5 ++ [59]) W6 hI6' (Nat.le_trans HS5.out.2.1.size hB6.size)
              have HB6 : Hid (Below w.heap.size w W6) := HS5.out.2.1.trans hB6
              clear h59' hI6 hI6' hB6
              go_wp2_with fail
              refine hst.mono ?_
              rintro e W7 ⟨rfl, hB7⟩
              go_wp2_with fail
              go_ret
              refine ⟨?_, HB6.out.trans hB7⟩
              have hl : l5 ++ [59] = itemL mo s wd ts x := by
                rw [HL5.out, HL4.out, HL3.out, HL2.out, HL1.out, HL0.out]
                rfl
              rw [hl]
              rfl
        · have hh3 := has_any x hx 3 (by omega) W3
          rw [t3] at hh3
          go_wp2_with fail
          refine hh3.mono ?_
          rintro e w' ⟨rfl, hw⟩
          subst w'
          clear hh3
          have HOK3 : Hid (Ok [] ((runsOf wd).map (txt wkN))) := ok3 wd
          have q3 := HC.out.below HS3.out.2.1
          have r3 := q3.c3
          clear q3
          have ct3 := texts_day (F := F) wd hwd W3 (HE.out.below HS3.out.2.1)
          go_wp2_with fail
          refine ct3.mono ?_
          rintro e V3 ⟨v3, rfl, hr3, hbv3⟩
          clear ct3
          clear r3
          rw [← List.length_map (f := txt wkN)] at hr3
          have hi3 := isBuilder_below HS3.out.1 hbv3
          have cw3 := writeSet_none w.heap.size w.heap.size W3.heap.size l3 v3 ((runsOf wd).map (txt wkN)) V3 hi3 hr3 (by have := hbv3.size; have := HS3.out.2.1.size; omega) (by have := HS3.out.2.2; omega) (by have := (HOK3.out).j; omega) (by have := (HOK3.out).n; omega)
          have hbB3 : Below w.heap.size w V3 := HS3.out.2.1.trans (hbv3.mono HS3.out.2.1.size)
          have HV3 : Hid (Below w.heap.size w V3) := hbB3
          clear hbB3 hr3 hi3 hbv3
          go_wp2_with fail
          refine cw3.mono ?_
          rintro e W4 ⟨rfl, hI4, hB4⟩
          obtain ⟨l4, hl4⟩ : ∃ l, l = l3 ++ sg3 wd := ⟨_, rfl⟩
          have HS4 : Hid (Lib.IsBuilder 58 5 w.heap.size w.heap.size (Lib.byteCells l4) W4 ∧ Below w.heap.size w W4 ∧ l4.length ≤ 16000000008) := by
            refine ⟨?_, HV3.out.trans hB4, ?_⟩
            · rw [hl4]; exact hI4
            · rw [hl4, List.length_append]
              have h1 := HS3.out.2.2
              have h2 := (HOK3.out).s
              have h3 : (sg3 wd).length ≤ 4000000001 := h2
              omega
          have HL4 : Hid (l4 = l3 ++ (if x.testBit 3 then sg3 wd else [])) := by
            show l4 = _
            rw [t3, if_pos rfl]; exact hl4
          clear hI4 hB4 hl4 cw3
          cases t4 : x.testBit 4
          · have hh4 := has_any x hx 4 (by omega) W4
            rw [t4] at hh4
            go_wp2_with fail
            refine hh4.mono ?_
            rintro e w' ⟨rfl, hw⟩
            subst w'
            clear hh4
            obtain ⟨W5, hW5⟩ : ∃ W, W = W4 := ⟨_, rfl⟩
            obtain ⟨l5, hl5⟩ : ∃ l, l = l4 := ⟨_, rfl⟩
            have HS5 : Hid (Lib.IsBuilder 58 5 w.heap.size w.heap.size (Lib.byteCells l5) W5 ∧ Below w.heap.size w W5 ∧ l5.length ≤ 20000000009) := by
              rw [hW5, hl5]
              exact ⟨HS4.out.1, HS4.out.2.1, by have := HS4.out.2.2; omega⟩
            have HL5 : Hid (l5 = l4 ++ (if x.testBit 4 then sg4 ts else [])) := by
              show l5 = _
              rw [t4, hl5]; simp
            rw [← hW5]
            clear hW5 hl5
            have h59 := writeByte_any w.heap.size w.heap.size (Lib.byteCells l5) 59 W5 HS5.out.1 (by rw [Lib.byteCells_length]; have := HS5.out.2.2; omega) HS5.out.2.1.size
            have h59' : Calls Tryf.prog 30 #[.pointer (some ⟨w.heap.size, 0, none⟩), .int .u8 59] W5 fun e w' => e = .returned .nilIface ∧ Lib.BuilderAt 58 5 w.heap.size w.heap.size (.pointer (some ⟨w.heap.size, 0, none⟩)) (Lib.byteCells l5 ++ [.int .u8 59]) w' ∧ Below w.heap.size W5 w' ∧ KT w.heap.size W5 w' := h59
            clear h59
            go_wp2_with fail
            refine h59'.mono ?_
            rintro e W6 ⟨rfl, hI6, hB6, _⟩
            have hI6' : Lib.IsBuilder 58 5 w.heap.size w.heap.size (Lib.byteCells (l5 ++ [59])) W6 := .inr (by
              have e : Lib.byteCells (l5 ++ [59]) = Lib.byteCells l5 ++ [.int .u8 59] := by simp [Lib.byteCells]
              rw [e]; exact hI6)
            have hst := Tryf.Builder_String_any w.heap.size w.heap.size (l5 ++ [59]) W6 hI6' (Nat.le_trans HS5.out.2.1.size hB6.size)
            have HB6 : Hid (Below w.heap.size w W6) := HS5.out.2.1.trans hB6
            clear h59' hI6 hI6' hB6
            go_wp2_with fail
            refine hst.mono ?_
            rintro e W7 ⟨rfl, hB7⟩
            go_wp2_with fail
            go_ret
            refine ⟨?_, HB6.out.trans hB7⟩
            have hl : l5 ++ [59] = itemL mo s wd ts x := by
              rw [HL5.out, HL4.out, HL3.out, HL2.out, HL1.out, HL0.out]
              rfl
            rw [hl]
            rfl
          · have hh4 := has_any x hx 4 (by omega) W4
            rw [t4] at hh4
            go_wp2_with fail
            refine hh4.mono ?_
            rintro e w' ⟨rfl, hw⟩
            subst w'
            clear hh4
            have HOK4 : Hid (Ok [] (ts.map ckt)) := ok4 ts hts
            obtain ⟨ao, cap, htv, _, htc⟩ := HC.out.tm
            have r4 := (HC.out.below HS4.out.2.1).c4
            rw [htv] at r4
            have HTC : Hid (∀ (j : Nat) (t : Int × Int), ts[j]? = some t → ∃ g, ao = some ⟨g, 0, none⟩ ∧ w.cell? ⟨g, j * 2, none⟩ = some (.int .i64 t.1) ∧ w.cell? ⟨g, j * 2 + 1, none⟩ = some (.int .i64 t.2)) := htc
            clear htc htv
            go_wp2_with fail
            clear r4
            go_loopw [8, 60] (fun v i wr => ∃ k : Nat, i = .int .i64 (k : Int) ∧ k ≤ ts.length ∧ Hid (wr.ownsRow W4.heap.size 9 1 v k (((ts.take k).map ckt).map Value.string) ∧ Below W4.heap.size W4 wr)) (fun _ i _ => ts.length - (intOf i).toNat)
            case atStart => exact ⟨0, rfl, by omega, World.ownsRow_nil _ _ _ _, Below.refl _ _⟩
            case round =>
            obtain ⟨k, rfl, hk, HR⟩ := hrel
            by_cases hlt : k < ts.length
            · have hlt1 : decide ((k : Int) < (ts.length : Int)) = true := by simp; omega
              obtain ⟨g, rfl, hg1, hg2⟩ := HTC.out k ts[k] (List.getElem?_eq_getElem hlt)
              have hbw : Below w.heap.size w wr := HS4.out.2.1.trans (HR.out.2.mono HS4.out.2.1.size)
              have k1 := cell_keep hbw hg1
              have k2 := cell_keep hbw hg2
              have hki : (k : Int) < (ts.length : Int) := by omega
              have hg0 : g < wr.heap.size := World.block_lt_of_cell? wr ⟨g, k * 2, none⟩ k1
              have hgn : ¬ g = wr.heap.size := by omega
              have htk : ts[k]? = some ts[k] := List.getElem?_eq_getElem hlt
              generalize ts[k] = t at *
              go_wp2_with fail
              obtain ⟨w1, hw1⟩ : ∃ W : World, W = wr.alloc (.cells #[.int .i64 t.1, .int .i64 t.2] 47) := ⟨_, rfl⟩
              have hb47 : w1.heap[wr.heap.size]? = some (.cells #[.int .i64 t.1, .int .i64 t.2] 47) := by rw [hw1]; exact World.alloc_heap_new wr _
              have e0 : w1.cell? ⟨wr.heap.size, 0, none⟩ = some (.int .i64 t.1) := by rw [hw1]; simp
              have e1 : w1.cell? ⟨wr.heap.size, 1, none⟩ = some (.int .i64 t.2) := by rw [hw1]; simp
              have z1 : w1.heap.size = wr.heap.size + 1 := by rw [hw1]; simp
              have x0 : ∀ W, SX W4 wr.heap.size t W → W.cell? ⟨wr.heap.size, 0, none⟩ = some (.int .i64 t.1) := fun W hb => hb.2.1
              have x1 : ∀ W, SX W4 wr.heap.size t W → W.cell? ⟨wr.heap.size, 1, none⟩ = some (.int .i64 t.2) := fun W hb => hb.2.2
              have HR1 : Hid (w1.ownsRow W4.heap.size 9 1 u8 k (((ts.take k).map ckt).map Value.string) ∧ Below W4.heap.size W4 w1 ∧ wr.heap.size ≤ w1.heap.size) := by
                refine ⟨?_, ?_, by omega⟩
                · rw [hw1]; exact HR.out.1.alloc _
                · rw [hw1]; exact HR.out.2.alloc HR.out.2.size _
              have hnr : u8.ownBlock ≠ some wr.heap.size := by
                rcases HR1.out.1.2 with ⟨h, _⟩ | ⟨g', cap', cur, h, _, hg', _⟩
                · rw [h]; simp [Value.ownBlock]
                · intro e
                  rw [h] at e
                  have : g' = wr.heap.size := by simpa [Value.ownBlock] using e
                  rw [this, hb47] at hg'
                  cases hg'
              have HSX : Hid (SX W4 wr.heap.size t w1 ∧ u8.ownBlock ≠ some wr.heap.size) := ⟨⟨HR1.out.2.1, e0, e1⟩, hnr⟩
              rw [← hw1]
              clear hw1 e0 e1 k1 k2 hg0 hgn hg1 hg2 z1 hb47 hnr
              have cbl : ∀ m, (cb m).length = 4 := fun m => rfl
              refine wp_region_held_drew (S := fun w' => SX W4 wr.heap.size t w') (by kernel_rfl) (HSX.out.1.below (Below.refl _ _).drew) (fun hHeld => ?_)
              refine wpAnyH_take (i := 0) (v := ?v0_105) rfl (by kernel_rfl) (by kernel_rfl) (by kernel_rfl) (fun _ _ _ h => h) (Or.inl ⟨by rfl, ?y0_105⟩) (by assumption) ?r0_105
              case y0_105 => intro w hSw; go_simp; try with_reducible rfl
              simp only [List.getElem_toArray, List.getElem_cons_succ, List.getElem_cons_zero, Act.put, List.setIfInBounds_toArray, List.set_cons_zero, List.set_cons_succ]
              refine wpAnyH_take (i := 1) (v := ?v1_106) rfl (by kernel_rfl) (by kernel_rfl) (by kernel_rfl) (fun _ _ _ h => h) (Or.inl ⟨by rfl, ?y1_106⟩) (by assumption) ?r1_106
              case y1_106 => intro w hSw; go_simp; try with_reducible rfl
              simp only [List.getElem_toArray, List.getElem_cons_succ, List.getElem_cons_zero, Act.put, List.setIfInBounds_toArray, List.set_cons_zero, List.set_cons_succ]
              refine wpAnyH_take (i := 2) (v := ?v2_107) rfl (by kernel_rfl) (by kernel_rfl) (by kernel_rfl) (fun _ _ _ h => h) (Or.inl ⟨by rfl, ?y2_107⟩) (by assumption) ?r2_107
              case y2_107 => intro w hSw; go_simp; try with_reducible rfl
              simp only [List.getElem_toArray, List.getElem_cons_succ, List.getElem_cons_zero, Act.put, List.setIfInBounds_toArray, List.set_cons_zero, List.set_cons_succ]
              refine wpAnyH_take (i := 5) (v := ?v5_108) rfl (by kernel_rfl) (by kernel_rfl) (by kernel_rfl) (fun _ _ _ h => h) (Or.inl ⟨by rfl, ?y5_108⟩) (by assumption) ?r5_108
              case y5_108 => intro w hSw; go_simp; try with_reducible rfl
              simp only [List.getElem_toArray, List.getElem_cons_succ, List.getElem_cons_zero, Act.put, List.setIfInBounds_toArray, List.set_cons_zero, List.set_cons_succ]
              refine wpAnyH_take (i := 6) (v := ?v6_109) rfl (by kernel_rfl) (by kernel_rfl) (by kernel_rfl) (fun _ _ _ h => h) (Or.inl ⟨by rfl, ?y6_109⟩) (by assumption) ?r6_109
              case y6_109 => intro w hSw; go_simp; try with_reducible rfl
              simp only [List.getElem_toArray, List.getElem_cons_succ, List.getElem_cons_zero, Act.put, List.setIfInBounds_toArray, List.set_cons_zero, List.set_cons_succ]
              refine wpAnyH_ready (rs := [3]) (by kernel_rfl) (by simp) ?_
              refine AllReadyH.cons rfl (fun K hK => ?_) AllReadyH.nil
              go_simp
              refine (clockText_any t.1 _).mono ?_
              rintro e w2 ⟨rfl, hb2⟩
              have hh2 : Below w1.heap.size w1 w2 := ((Below.refl w1.heap.size w1).drew).trans hb2
              refine hK.out _ _ (HSX.out.1.below hh2) (fun hH3 => ?_)
              clear hK K hb2
              refine wpAnyH_take (i := 4) (v := ?v4_110) rfl (by kernel_rfl) (by kernel_rfl) (by kernel_rfl) (fun _ _ _ h => h) (Or.inl ⟨by rfl, ?y4_110⟩) (by assumption) ?r4_110
              case y4_110 => intro w hSw; go_simp; try with_reducible rfl
              simp only [List.getElem_toArray, List.getElem_cons_succ, List.getElem_cons_zero, Act.put, List.setIfInBounds_toArray, List.set_cons_zero, List.set_cons_succ]
              refine wpAnyH_ready (rs := [7]) (by kernel_rfl) (by simp) ?_
              refine AllReadyH.cons rfl (fun K hK => ?_) AllReadyH.nil
              go_simp
              refine (clockText_any t.2 _).mono ?_
              rintro e w3 ⟨rfl, hb3⟩
              have hh3 : Below w1.heap.size w1 w3 := hh2.trans (hb3.mono hh2.size)
              refine hK.out _ _ (HSX.out.1.below hh3) (fun hH7 => ?_)
              clear hK K hb3
              refine wpAnyH_take (i := 8) (v := ?v8_111) rfl (by kernel_rfl) (by kernel_rfl) (by kernel_rfl) (fun _ _ _ h => h) (Or.inl ⟨by rfl, ?y8_111⟩) (by assumption) ?r8_111
              case y8_111 => intro w hSw; go_simp; try with_reducible rfl
              simp only [List.getElem_toArray, List.getElem_cons_succ, List.getElem_cons_zero, Act.put, List.setIfInBounds_toArray, List.set_cons_zero, List.set_cons_succ]
              refine wpAnyH_ready (rs := [9]) (by kernel_rfl) (by simp) ?_
              refine AllReadyH.cons rfl (fun K hK => ?_) AllReadyH.nil
              go_simp
              obtain ⟨w4, hw4⟩ : ∃ W : World, W = w3.alloc (.cells #[.string (⟨(cb t.1).toArray⟩ ++ ⟨#[45]⟩ ++ ⟨(cb t.2).toArray⟩)] 9) := ⟨_, rfl⟩
              have hh4 : Below w1.heap.size w1 w4 := by rw [hw4]; exact hh3.alloc hh3.size _
              have c4 : w4.cell? ⟨w3.heap.size, 0, none⟩ = some (.string (⟨(cb t.1).toArray⟩ ++ ⟨#[45]⟩ ++ ⟨(cb t.2).toArray⟩)) := by rw [hw4]; simp
              rw [← hw4]
              clear hw4
              refine hK.out _ _ (HSX.out.1.below hh4) (fun hH9 => ?_)
              clear hK K
              refine wpAnyH_ready (rs := [10]) (by kernel_rfl) (by simp) ?_
              refine AllReadyH.cons rfl (fun K hK => ?_) AllReadyH.nil
              refine app65 w4 (by rfl) _ _ (by rfl) W4.heap.size u8 k _ (by rfl) (own_below HR1.out.1 hh4 (Nat.le_refl _)) w3.heap.size 1 (.string (⟨(cb t.1).toArray⟩ ++ ⟨#[45]⟩ ++ ⟨(cb t.2).toArray⟩)) (by rfl) c4 rfl (by omega) (Nat.le_trans HR1.out.2.1.size hh4.size) ?_
              intro g' cap' w5 hown5 hgrow5 hat5 hlt5
              simp only [List.getElem_toArray, List.getElem_cons_succ, List.getElem_cons_zero, Act.put, List.setIfInBounds_toArray, List.set_cons_zero, List.set_cons_succ]
              have hS5 : SX W4 wr.heap.size t w5 := (HSX.out.1.below hh4).grown (own_below HR1.out.1 hh4 (Nat.le_refl _)) hgrow5 HSX.out.2
              refine hK.out _ _ hS5 (fun hH10 => ?_)
              clear hK K
              refine wpAnyH_take (i := 11) (v := ?v11_112) rfl (by kernel_rfl) (by kernel_rfl) (by kernel_rfl) (fun _ _ _ h => h) (Or.inl ⟨by rfl, ?y11_112⟩) (by assumption) ?r11_112
              case y11_112 => intro w hSw; go_simp; try with_reducible rfl
              simp only [List.getElem_toArray, List.getElem_cons_succ, List.getElem_cons_zero, Act.put, List.setIfInBounds_toArray, List.set_cons_zero, List.set_cons_succ]
              refine wpAnyH_done (by kernel_rfl) ?_ _
              have HN5 : Hid (w5.ownsRow W4.heap.size 9 1 (.slice (some ⟨g', 0, none⟩) (k + 1) cap') (k + 1) (((ts.take (k + 1)).map ckt).map Value.string) ∧ Below W4.heap.size W4 w5) := by
                refine ⟨?_, hS5.1⟩
                rw [List.take_add_one, htk]
                simp only [Option.toList_some, List.map_append, List.map_cons, List.map_nil]
                exact hown5
              clear hown5 hS5 hgrow5 hat5 hlt5 c4 hh4 hh3 hh2 hH10 hH9 hH7 hH3 hHeld x0 x1
              have hwk : IntKind.i64.wrap ((k : Int) + 1) = (k : Int) + 1 := by rw [IntKind.wrap_i64]; omega
              go_wp2_with fail
              go_roundw
              case rel => exact ⟨k + 1, by simp, by omega, HN5⟩
              case measure => simp [intOf]; omega
            · obtain rfl : k = ts.length := by omega
              have hrow := HR.out.1
              rw [List.take_length, ← List.length_map (f := ckt)] at hrow
              have hbl := HR.out.2
              have hi4 := isBuilder_below HS4.out.1 hbl
              have cw4 := writeSet_none w.heap.size w.heap.size W4.heap.size l4 u8 (ts.map ckt) wr hi4 hrow (by have := hbl.size; have := HS4.out.2.1.size; omega) (by have := HS4.out.2.2; omega) (by have := (HOK4.out).j; omega) (by have := (HOK4.out).n; omega)
              have HV4 : Hid (Below w.heap.size w wr) := HS4.out.2.1.trans (hbl.mono HS4.out.2.1.size)
              clear hrow hbl hi4
              go_wp2_with fail
              refine cw4.mono ?_
              rintro e W5 ⟨rfl, hI5, hB5⟩
              obtain ⟨l5, hl5⟩ : ∃ l, l = l4 ++ sg4 ts := ⟨_, rfl⟩
              have HS5 : Hid (Lib.IsBuilder 58 5 w.heap.size w.heap.size (Lib.byteCells l5) W5 ∧ Below w.heap.size w W5 ∧ l5.length ≤ 20000000009) := by
                refine ⟨?_, HV4.out.trans hB5, ?_⟩
                · rw [hl5]; exact hI5
                · rw [hl5, List.length_append]
                  have h1 := HS4.out.2.2
                  have h2 := (HOK4.out).s
                  have h3 : (sg4 ts).length ≤ 4000000001 := h2
                  omega
              have HL5 : Hid (l5 = l4 ++ (if x.testBit 4 then sg4 ts else [])) := by
                show l5 = _
                rw [t4, if_pos rfl]; exact hl5
              clear hI5 hB5 hl5 cw4
              have h59 := writeByte_any w.heap.size w.heap.size (Lib.byteCells l5) 59 W5 HS5.out.1 (by rw [Lib.byteCells_length]; have := HS5.out.2.2; omega) HS5.out.2.1.size
              have h59' : Calls Tryf.prog 30 #[.pointer (some ⟨w.heap.size, 0, none⟩), .int .u8 59] W5 fun e w' => e = .returned .nilIface ∧ Lib.BuilderAt 58 5 w.heap.size w.heap.size (.pointer (some ⟨w.heap.size, 0, none⟩)) (Lib.byteCells l5 ++ [.int .u8 59]) w' ∧ Below w.heap.size W5 w' ∧ KT w.heap.size W5 w' := h59
              clear h59
              go_wp2_with fail
              refine h59'.mono ?_
              rintro e W6 ⟨rfl, hI6, hB6, _⟩
              have hI6' : Lib.IsBuilder 58 5 w.heap.size w.heap.size (Lib.byteCells (l5 ++ [59])) W6 := .inr (by
                have e : Lib.byteCells (l5 ++ [59]) = Lib.byteCells l5 ++ [.int .u8 59] := by simp [Lib.byteCells]
                rw [e]; exact hI6)
              have hst := Tryf.Builder_String_any w.heap.size w.heap.size (l5 ++ [59]) W6 hI6' (Nat.le_trans HS5.out.2.1.size hB6.size)
              have HB6 : Hid (Below w.heap.size w W6) := HS5.out.2.1.trans hB6
              clear h59' hI6 hI6' hB6
              go_wp2_with fail
              refine hst.mono ?_
              rintro e W7 ⟨rfl, hB7⟩
              go_wp2_with fail
              go_ret
              refine ⟨?_, HB6.out.trans hB7⟩
              have hl : l5 ++ [59] = itemL mo s wd ts x := by
                rw [HL5.out, HL4.out, HL3.out, HL2.out, HL1.out, HL0.out]
                rfl
              rw [hl]
              rfl
      · have hh2 := has_any x hx 2 (by omega) W2
        rw [t2] at hh2
        go_wp2_with fail
        refine hh2.mono ?_
        rintro e w' ⟨rfl, hw⟩
        subst w'
        clear hh2
        have HOK2 : Hid (Ok [121, 101, 97, 114] ((yruns s).map (txt yN))) := ok2 s hs [121, 101, 97, 114] (by simp)
        have q2 := HC.out.below HS2.out.2.1
        have r2 := q2.c2
        have r12 := q2.d12
        clear q2
        have ct2 := texts_year (F := F) s hs W2 (HE.out.below HS2.out.2.1)
        go_wp2_with fail
        refine ct2.mono ?_
        rintro e V2 ⟨v2, rfl, hr2, hbv2⟩
        clear ct2
        clear r2 r12
        rw [← List.length_map (f := txt yN)] at hr2
        have hi2 := isBuilder_below HS2.out.1 hbv2
        have cw2 := writeSet_word w.heap.size w.heap.size W2.heap.size l2 ⟨#[121, 101, 97, 114]⟩ v2 ((yruns s).map (txt yN)) V2 hi2 hr2 (by have := hbv2.size; have := HS2.out.2.1.size; omega) (by decide +kernel) (by decide) (by decide) (by have := HS2.out.2.2; omega) (by have := (HOK2.out).j; omega) (by have := (HOK2.out).n; omega)
        have hbB2 : Below w.heap.size w V2 := HS2.out.2.1.trans (hbv2.mono HS2.out.2.1.size)
        have HV2 : Hid (Below w.heap.size w V2) := hbB2
        clear hbB2 hr2 hi2 hbv2
        go_wp2_with fail
        refine cw2.mono ?_
        rintro e W3 ⟨rfl, hI3, hB3⟩
        obtain ⟨l3, hl3⟩ : ∃ l, l = l2 ++ sg2 s := ⟨_, rfl⟩
        have HS3 : Hid (Lib.IsBuilder 58 5 w.heap.size w.heap.size (Lib.byteCells l3) W3 ∧ Below w.heap.size w W3 ∧ l3.length ≤ 12000000007) := by
          refine ⟨?_, HV2.out.trans hB3, ?_⟩
          · rw [hl3]; exact hI3
          · rw [hl3, List.length_append]
            have h1 := HS2.out.2.2
            have h2 := (HOK2.out).s
            have h3 : (sg2 s).length ≤ 4000000001 := h2
            omega
        have HL3 : Hid (l3 = l2 ++ (if x.testBit 2 then sg2 s else [])) := by
          show l3 = _
          rw [t2, if_pos rfl]; exact hl3
        clear hI3 hB3 hl3 cw2
        cases t3 : x.testBit 3
        · have hh3 := has_any x hx 3 (by omega) W3
          rw [t3] at hh3
          go_wp2_with fail
          refine hh3.mono ?_
          rintro e w' ⟨rfl, hw⟩
          subst w'
          clear hh3
          obtain ⟨W4, hW4⟩ : ∃ W, W = W3 := ⟨_, rfl⟩
          obtain ⟨l4, hl4⟩ : ∃ l, l = l3 := ⟨_, rfl⟩
          have HS4 : Hid (Lib.IsBuilder 58 5 w.heap.size w.heap.size (Lib.byteCells l4) W4 ∧ Below w.heap.size w W4 ∧ l4.length ≤ 16000000008) := by
            rw [hW4, hl4]
            exact ⟨HS3.out.1, HS3.out.2.1, by have := HS3.out.2.2; omega⟩
          have HL4 : Hid (l4 = l3 ++ (if x.testBit 3 then sg3 wd else [])) := by
            show l4 = _
            rw [t3, hl4]; simp
          rw [← hW4]
          clear hW4 hl4
          cases t4 : x.testBit 4
          · have hh4 := has_any x hx 4 (by omega) W4
            rw [t4] at hh4
            go_wp2_with fail
            refine hh4.mono ?_
            rintro e w' ⟨rfl, hw⟩
            subst w'
            clear hh4
            obtain ⟨W5, hW5⟩ : ∃ W, W = W4 := ⟨_, rfl⟩
            obtain ⟨l5, hl5⟩ : ∃ l, l = l4 := ⟨_, rfl⟩
            have HS5 : Hid (Lib.IsBuilder 58 5 w.heap.size w.heap.size (Lib.byteCells l5) W5 ∧ Below w.heap.size w W5 ∧ l5.length ≤ 20000000009) := by
              rw [hW5, hl5]
              exact ⟨HS4.out.1, HS4.out.2.1, by have := HS4.out.2.2; omega⟩
            have HL5 : Hid (l5 = l4 ++ (if x.testBit 4 then sg4 ts else [])) := by
              show l5 = _
              rw [t4, hl5]; simp
            rw [← hW5]
            clear hW5 hl5
            have h59 := writeByte_any w.heap.size w.heap.size (Lib.byteCells l5) 59 W5 HS5.out.1 (by rw [Lib.byteCells_length]; have := HS5.out.2.2; omega) HS5.out.2.1.size
            have h59' : Calls Tryf.prog 30 #[.pointer (some ⟨w.heap.size, 0, none⟩), .int .u8 59] W5 fun e w' => e = .returned .nilIface ∧ Lib.BuilderAt 58 5 w.heap.size w.heap.size (.pointer (some ⟨w.heap.size, 0, none⟩)) (Lib.byteCells l5 ++ [.int .u8 59]) w' ∧ Below w.heap.size W5 w' ∧ KT w.heap.size W5 w' := h59
            clear h59
            go_wp2_with fail
            refine h59'.mono ?_
            rintro e W6 ⟨rfl, hI6, hB6, _⟩
            have hI6' : Lib.IsBuilder 58 5 w.heap.size w.heap.size (Lib.byteCells (l5 ++ [59])) W6 := .inr (by
              have e : Lib.byteCells (l5 ++ [59]) = Lib.byteCells l5 ++ [.int .u8 59] := by simp [Lib.byteCells]
              rw [e]; exact hI6)
            have hst := Tryf.Builder_String_any w.heap.size w.heap.size (l5 ++ [59]) W6 hI6' (Nat.le_trans HS5.out.2.1.size hB6.size)
            have HB6 : Hid (Below w.heap.size w W6) := HS5.out.2.1.trans hB6
            clear h59' hI6 hI6' hB6
            go_wp2_with fail
            refine hst.mono ?_
            rintro e W7 ⟨rfl, hB7⟩
            go_wp2_with fail
            go_ret
            refine ⟨?_, HB6.out.trans hB7⟩
            have hl : l5 ++ [59] = itemL mo s wd ts x := by
              rw [HL5.out, HL4.out, HL3.out, HL2.out, HL1.out, HL0.out]
              rfl
            rw [hl]
            rfl
          · have hh4 := has_any x hx 4 (by omega) W4
            rw [t4] at hh4
            go_wp2_with fail
            refine hh4.mono ?_
            rintro e w' ⟨rfl, hw⟩
            subst w'
            clear hh4
            have HOK4 : Hid (Ok [] (ts.map ckt)) := ok4 ts hts
            obtain ⟨ao, cap, htv, _, htc⟩ := HC.out.tm
            have r4 := (HC.out.below HS4.out.2.1).c4
            rw [htv] at r4
            have HTC : Hid (∀ (j : Nat) (t : Int × Int), ts[j]? = some t → ∃ g, ao = some ⟨g, 0, none⟩ ∧ w.cell? ⟨g, j * 2, none⟩ = some (.int .i64 t.1) ∧ w.cell? ⟨g, j * 2 + 1, none⟩ = some (.int .i64 t.2)) := htc
            clear htc htv
            go_wp2_with fail
            clear r4
            go_loopw [8, 60] (fun v i wr => ∃ k : Nat, i = .int .i64 (k : Int) ∧ k ≤ ts.length ∧ Hid (wr.ownsRow W4.heap.size 9 1 v k (((ts.take k).map ckt).map Value.string) ∧ Below W4.heap.size W4 wr)) (fun _ i _ => ts.length - (intOf i).toNat)
            case atStart => exact ⟨0, rfl, by omega, World.ownsRow_nil _ _ _ _, Below.refl _ _⟩
            case round =>
            obtain ⟨k, rfl, hk, HR⟩ := hrel
            by_cases hlt : k < ts.length
            · have hlt1 : decide ((k : Int) < (ts.length : Int)) = true := by simp; omega
              obtain ⟨g, rfl, hg1, hg2⟩ := HTC.out k ts[k] (List.getElem?_eq_getElem hlt)
              have hbw : Below w.heap.size w wr := HS4.out.2.1.trans (HR.out.2.mono HS4.out.2.1.size)
              have k1 := cell_keep hbw hg1
              have k2 := cell_keep hbw hg2
              have hki : (k : Int) < (ts.length : Int) := by omega
              have hg0 : g < wr.heap.size := World.block_lt_of_cell? wr ⟨g, k * 2, none⟩ k1
              have hgn : ¬ g = wr.heap.size := by omega
              have htk : ts[k]? = some ts[k] := List.getElem?_eq_getElem hlt
              generalize ts[k] = t at *
              go_wp2_with fail
              obtain ⟨w1, hw1⟩ : ∃ W : World, W = wr.alloc (.cells #[.int .i64 t.1, .int .i64 t.2] 47) := ⟨_, rfl⟩
              have hb47 : w1.heap[wr.heap.size]? = some (.cells #[.int .i64 t.1, .int .i64 t.2] 47) := by rw [hw1]; exact World.alloc_heap_new wr _
              have e0 : w1.cell? ⟨wr.heap.size, 0, none⟩ = some (.int .i64 t.1) := by rw [hw1]; simp
              have e1 : w1.cell? ⟨wr.heap.size, 1, none⟩ = some (.int .i64 t.2) := by rw [hw1]; simp
              have z1 : w1.heap.size = wr.heap.size + 1 := by rw [hw1]; simp
              have x0 : ∀ W, SX W4 wr.heap.size t W → W.cell? ⟨wr.heap.size, 0, none⟩ = some (.int .i64 t.1) := fun W hb => hb.2.1
              have x1 : ∀ W, SX W4 wr.heap.size t W → W.cell? ⟨wr.heap.size, 1, none⟩ = some (.int .i64 t.2) := fun W hb => hb.2.2
              have HR1 : Hid (w1.ownsRow W4.heap.size 9 1 u8 k (((ts.take k).map ckt).map Value.string) ∧ Below W4.heap.size W4 w1 ∧ wr.heap.size ≤ w1.heap.size) := by
                refine ⟨?_, ?_, by omega⟩
                · rw [hw1]; exact HR.out.1.alloc _
                · rw [hw1]; exact HR.out.2.alloc HR.out.2.size _
              have hnr : u8.ownBlock ≠ some wr.heap.size := by
                rcases HR1.out.1.2 with ⟨h, _⟩ | ⟨g', cap', cur, h, _, hg', _⟩
                · rw [h]; simp [Value.ownBlock]
                · intro e
                  rw [h] at e
                  have : g' = wr.heap.size := by simpa [Value.ownBlock] using e
                  rw [this, hb47] at hg'
                  cases hg'
              have HSX : Hid (SX W4 wr.heap.size t w1 ∧ u8.ownBlock ≠ some wr.heap.size) := ⟨⟨HR1.out.2.1, e0, e1⟩, hnr⟩
              rw [← hw1]
              clear hw1 e0 e1 k1 k2 hg0 hgn hg1 hg2 z1 hb47 hnr
              have cbl : ∀ m, (cb m).length = 4 := fun m => rfl
              refine wp_region_held_drew (S := fun w' => SX W4 wr.heap.size t w') (by kernel_rfl) (HSX.out.1.below (Below.refl _ _).drew) (fun hHeld => ?_)
              refine wpAnyH_take (i := 0) (v := ?v0_113) rfl (by kernel_rfl) (by kernel_rfl) (by kernel_rfl) (fun _ _ _ h => h) (Or.inl ⟨by rfl, ?y0_113⟩) (by assumption) ?r0_113
              case y0_113 => intro w hSw; go_simp; try with_reducible rfl
              simp only [List.getElem_toArray, List.getElem_cons_succ, List.getElem_cons_zero, Act.put, List.setIfInBounds_toArray, List.set_cons_zero, List.set_cons_succ]
              refine wpAnyH_take (i := 1) (v := ?v1_114) rfl (by kernel_rfl) (by kernel_rfl) (by kernel_rfl) (fun _ _ _ h => h) (Or.inl ⟨by rfl, ?y1_114⟩) (by assumption) ?r1_114
              case y1_114 => intro w hSw; go_simp; try with_reducible rfl
              simp only [List.getElem_toArray, List.getElem_cons_succ, List.getElem_cons_zero, Act.put, List.setIfInBounds_toArray, List.set_cons_zero, List.set_cons_succ]
              refine wpAnyH_take (i := 2) (v := ?v2_115) rfl (by kernel_rfl) (by kernel_rfl) (by kernel_rfl) (fun _ _ _ h => h) (Or.inl ⟨by rfl, ?y2_115⟩) (by assumption) ?r2_115
              case y2_115 => intro w hSw; go_simp; try with_reducible rfl
              simp only [List.getElem_toArray, List.getElem_cons_succ, List.getElem_cons_zero, Act.put, List.setIfInBounds_toArray, List.set_cons_zero, List.set_cons_succ]
              refine wpAnyH_take (i := 5) (v := ?v5_116) rfl (by kernel_rfl) (by kernel_rfl) (by kernel_rfl) (fun _ _ _ h => h) (Or.inl ⟨by rfl, ?y5_116⟩) (by assumption) ?r5_116
              case y5_116 => intro w hSw; go_simp; try with_reducible rfl
              simp only [List.getElem_toArray, List.getElem_cons_succ, List.getElem_cons_zero, Act.put, List.setIfInBounds_toArray, List.set_cons_zero, List.set_cons_succ]
              refine wpAnyH_take (i := 6) (v := ?v6_117) rfl (by kernel_rfl) (by kernel_rfl) (by kernel_rfl) (fun _ _ _ h => h) (Or.inl ⟨by rfl, ?y6_117⟩) (by assumption) ?r6_117
              case y6_117 => intro w hSw; go_simp; try with_reducible rfl
              simp only [List.getElem_toArray, List.getElem_cons_succ, List.getElem_cons_zero, Act.put, List.setIfInBounds_toArray, List.set_cons_zero, List.set_cons_succ]
              refine wpAnyH_ready (rs := [3]) (by kernel_rfl) (by simp) ?_
              refine AllReadyH.cons rfl (fun K hK => ?_) AllReadyH.nil
              go_simp
              refine (clockText_any t.1 _).mono ?_
              rintro e w2 ⟨rfl, hb2⟩
              have hh2 : Below w1.heap.size w1 w2 := ((Below.refl w1.heap.size w1).drew).trans hb2
              refine hK.out _ _ (HSX.out.1.below hh2) (fun hH3 => ?_)
              clear hK K hb2
              refine wpAnyH_take (i := 4) (v := ?v4_118) rfl (by kernel_rfl) (by kernel_rfl) (by kernel_rfl) (fun _ _ _ h => h) (Or.inl ⟨by rfl, ?y4_118⟩) (by assumption) ?r4_118
              case y4_118 => intro w hSw; go_simp; try with_reducible rfl
              simp only [List.getElem_toArray, List.getElem_cons_succ, List.getElem_cons_zero, Act.put, List.setIfInBounds_toArray, List.set_cons_zero, List.set_cons_succ]
              refine wpAnyH_ready (rs := [7]) (by kernel_rfl) (by simp) ?_
              refine AllReadyH.cons rfl (fun K hK => ?_) AllReadyH.nil
              go_simp
              refine (clockText_any t.2 _).mono ?_
              rintro e w3 ⟨rfl, hb3⟩
              have hh3 : Below w1.heap.size w1 w3 := hh2.trans (hb3.mono hh2.size)
              refine hK.out _ _ (HSX.out.1.below hh3) (fun hH7 => ?_)
              clear hK K hb3
              refine wpAnyH_take (i := 8) (v := ?v8_119) rfl (by kernel_rfl) (by kernel_rfl) (by kernel_rfl) (fun _ _ _ h => h) (Or.inl ⟨by rfl, ?y8_119⟩) (by assumption) ?r8_119
              case y8_119 => intro w hSw; go_simp; try with_reducible rfl
              simp only [List.getElem_toArray, List.getElem_cons_succ, List.getElem_cons_zero, Act.put, List.setIfInBounds_toArray, List.set_cons_zero, List.set_cons_succ]
              refine wpAnyH_ready (rs := [9]) (by kernel_rfl) (by simp) ?_
              refine AllReadyH.cons rfl (fun K hK => ?_) AllReadyH.nil
              go_simp
              obtain ⟨w4, hw4⟩ : ∃ W : World, W = w3.alloc (.cells #[.string (⟨(cb t.1).toArray⟩ ++ ⟨#[45]⟩ ++ ⟨(cb t.2).toArray⟩)] 9) := ⟨_, rfl⟩
              have hh4 : Below w1.heap.size w1 w4 := by rw [hw4]; exact hh3.alloc hh3.size _
              have c4 : w4.cell? ⟨w3.heap.size, 0, none⟩ = some (.string (⟨(cb t.1).toArray⟩ ++ ⟨#[45]⟩ ++ ⟨(cb t.2).toArray⟩)) := by rw [hw4]; simp
              rw [← hw4]
              clear hw4
              refine hK.out _ _ (HSX.out.1.below hh4) (fun hH9 => ?_)
              clear hK K
              refine wpAnyH_ready (rs := [10]) (by kernel_rfl) (by simp) ?_
              refine AllReadyH.cons rfl (fun K hK => ?_) AllReadyH.nil
              refine app65 w4 (by rfl) _ _ (by rfl) W4.heap.size u8 k _ (by rfl) (own_below HR1.out.1 hh4 (Nat.le_refl _)) w3.heap.size 1 (.string (⟨(cb t.1).toArray⟩ ++ ⟨#[45]⟩ ++ ⟨(cb t.2).toArray⟩)) (by rfl) c4 rfl (by omega) (Nat.le_trans HR1.out.2.1.size hh4.size) ?_
              intro g' cap' w5 hown5 hgrow5 hat5 hlt5
              simp only [List.getElem_toArray, List.getElem_cons_succ, List.getElem_cons_zero, Act.put, List.setIfInBounds_toArray, List.set_cons_zero, List.set_cons_succ]
              have hS5 : SX W4 wr.heap.size t w5 := (HSX.out.1.below hh4).grown (own_below HR1.out.1 hh4 (Nat.le_refl _)) hgrow5 HSX.out.2
              refine hK.out _ _ hS5 (fun hH10 => ?_)
              clear hK K
              refine wpAnyH_take (i := 11) (v := ?v11_120) rfl (by kernel_rfl) (by kernel_rfl) (by kernel_rfl) (fun _ _ _ h => h) (Or.inl ⟨by rfl, ?y11_120⟩) (by assumption) ?r11_120
              case y11_120 => intro w hSw; go_simp; try with_reducible rfl
              simp only [List.getElem_toArray, List.getElem_cons_succ, List.getElem_cons_zero, Act.put, List.setIfInBounds_toArray, List.set_cons_zero, List.set_cons_succ]
              refine wpAnyH_done (by kernel_rfl) ?_ _
              have HN5 : Hid (w5.ownsRow W4.heap.size 9 1 (.slice (some ⟨g', 0, none⟩) (k + 1) cap') (k + 1) (((ts.take (k + 1)).map ckt).map Value.string) ∧ Below W4.heap.size W4 w5) := by
                refine ⟨?_, hS5.1⟩
                rw [List.take_add_one, htk]
                simp only [Option.toList_some, List.map_append, List.map_cons, List.map_nil]
                exact hown5
              clear hown5 hS5 hgrow5 hat5 hlt5 c4 hh4 hh3 hh2 hH10 hH9 hH7 hH3 hHeld x0 x1
              have hwk : IntKind.i64.wrap ((k : Int) + 1) = (k : Int) + 1 := by rw [IntKind.wrap_i64]; omega
              go_wp2_with fail
              go_roundw
              case rel => exact ⟨k + 1, by simp, by omega, HN5⟩
              case measure => simp [intOf]; omega
            · obtain rfl : k = ts.length := by omega
              have hrow := HR.out.1
              rw [List.take_length, ← List.length_map (f := ckt)] at hrow
              have hbl := HR.out.2
              have hi4 := isBuilder_below HS4.out.1 hbl
              have cw4 := writeSet_none w.heap.size w.heap.size W4.heap.size l4 u8 (ts.map ckt) wr hi4 hrow (by have := hbl.size; have := HS4.out.2.1.size; omega) (by have := HS4.out.2.2; omega) (by have := (HOK4.out).j; omega) (by have := (HOK4.out).n; omega)
              have HV4 : Hid (Below w.heap.size w wr) := HS4.out.2.1.trans (hbl.mono HS4.out.2.1.size)
              clear hrow hbl hi4
              go_wp2_with fail
              refine cw4.mono ?_
              rintro e W5 ⟨rfl, hI5, hB5⟩
              obtain ⟨l5, hl5⟩ : ∃ l, l = l4 ++ sg4 ts := ⟨_, rfl⟩
              have HS5 : Hid (Lib.IsBuilder 58 5 w.heap.size w.heap.size (Lib.byteCells l5) W5 ∧ Below w.heap.size w W5 ∧ l5.length ≤ 20000000009) := by
                refine ⟨?_, HV4.out.trans hB5, ?_⟩
                · rw [hl5]; exact hI5
                · rw [hl5, List.length_append]
                  have h1 := HS4.out.2.2
                  have h2 := (HOK4.out).s
                  have h3 : (sg4 ts).length ≤ 4000000001 := h2
                  omega
              have HL5 : Hid (l5 = l4 ++ (if x.testBit 4 then sg4 ts else [])) := by
                show l5 = _
                rw [t4, if_pos rfl]; exact hl5
              clear hI5 hB5 hl5 cw4
              have h59 := writeByte_any w.heap.size w.heap.size (Lib.byteCells l5) 59 W5 HS5.out.1 (by rw [Lib.byteCells_length]; have := HS5.out.2.2; omega) HS5.out.2.1.size
              have h59' : Calls Tryf.prog 30 #[.pointer (some ⟨w.heap.size, 0, none⟩), .int .u8 59] W5 fun e w' => e = .returned .nilIface ∧ Lib.BuilderAt 58 5 w.heap.size w.heap.size (.pointer (some ⟨w.heap.size, 0, none⟩)) (Lib.byteCells l5 ++ [.int .u8 59]) w' ∧ Below w.heap.size W5 w' ∧ KT w.heap.size W5 w' := h59
              clear h59
              go_wp2_with fail
              refine h59'.mono ?_
              rintro e W6 ⟨rfl, hI6, hB6, _⟩
              have hI6' : Lib.IsBuilder 58 5 w.heap.size w.heap.size (Lib.byteCells (l5 ++ [59])) W6 := .inr (by
                have e : Lib.byteCells (l5 ++ [59]) = Lib.byteCells l5 ++ [.int .u8 59] := by simp [Lib.byteCells]
                rw [e]; exact hI6)
              have hst := Tryf.Builder_String_any w.heap.size w.heap.size (l5 ++ [59]) W6 hI6' (Nat.le_trans HS5.out.2.1.size hB6.size)
              have HB6 : Hid (Below w.heap.size w W6) := HS5.out.2.1.trans hB6
              clear h59' hI6 hI6' hB6
              go_wp2_with fail
              refine hst.mono ?_
              rintro e W7 ⟨rfl, hB7⟩
              go_wp2_with fail
              go_ret
              refine ⟨?_, HB6.out.trans hB7⟩
              have hl : l5 ++ [59] = itemL mo s wd ts x := by
                rw [HL5.out, HL4.out, HL3.out, HL2.out, HL1.out, HL0.out]
                rfl
              rw [hl]
              rfl
        · have hh3 := has_any x hx 3 (by omega) W3
          rw [t3] at hh3
          go_wp2_with fail
          refine hh3.mono ?_
          rintro e w' ⟨rfl, hw⟩
          subst w'
          clear hh3
          have HOK3 : Hid (Ok [] ((runsOf wd).map (txt wkN))) := ok3 wd
          have q3 := HC.out.below HS3.out.2.1
          have r3 := q3.c3
          clear q3
          have ct3 := texts_day (F := F) wd hwd W3 (HE.out.below HS3.out.2.1)
          go_wp2_with fail
          refine ct3.mono ?_
          rintro e V3 ⟨v3, rfl, hr3, hbv3⟩
          clear ct3
          clear r3
          rw [← List.length_map (f := txt wkN)] at hr3
          have hi3 := isBuilder_below HS3.out.1 hbv3
          have cw3 := writeSet_none w.heap.size w.heap.size W3.heap.size l3 v3 ((runsOf wd).map (txt wkN)) V3 hi3 hr3 (by have := hbv3.size; have := HS3.out.2.1.size; omega) (by have := HS3.out.2.2; omega) (by have := (HOK3.out).j; omega) (by have := (HOK3.out).n; omega)
          have hbB3 : Below w.heap.size w V3 := HS3.out.2.1.trans (hbv3.mono HS3.out.2.1.size)
          have HV3 : Hid (Below w.heap.size w V3) := hbB3
          clear hbB3 hr3 hi3 hbv3
          go_wp2_with fail
          refine cw3.mono ?_
          rintro e W4 ⟨rfl, hI4, hB4⟩
          obtain ⟨l4, hl4⟩ : ∃ l, l = l3 ++ sg3 wd := ⟨_, rfl⟩
          have HS4 : Hid (Lib.IsBuilder 58 5 w.heap.size w.heap.size (Lib.byteCells l4) W4 ∧ Below w.heap.size w W4 ∧ l4.length ≤ 16000000008) := by
            refine ⟨?_, HV3.out.trans hB4, ?_⟩
            · rw [hl4]; exact hI4
            · rw [hl4, List.length_append]
              have h1 := HS3.out.2.2
              have h2 := (HOK3.out).s
              have h3 : (sg3 wd).length ≤ 4000000001 := h2
              omega
          have HL4 : Hid (l4 = l3 ++ (if x.testBit 3 then sg3 wd else [])) := by
            show l4 = _
            rw [t3, if_pos rfl]; exact hl4
          clear hI4 hB4 hl4 cw3
          cases t4 : x.testBit 4
          · have hh4 := has_any x hx 4 (by omega) W4
            rw [t4] at hh4
            go_wp2_with fail
            refine hh4.mono ?_
            rintro e w' ⟨rfl, hw⟩
            subst w'
            clear hh4
            obtain ⟨W5, hW5⟩ : ∃ W, W = W4 := ⟨_, rfl⟩
            obtain ⟨l5, hl5⟩ : ∃ l, l = l4 := ⟨_, rfl⟩
            have HS5 : Hid (Lib.IsBuilder 58 5 w.heap.size w.heap.size (Lib.byteCells l5) W5 ∧ Below w.heap.size w W5 ∧ l5.length ≤ 20000000009) := by
              rw [hW5, hl5]
              exact ⟨HS4.out.1, HS4.out.2.1, by have := HS4.out.2.2; omega⟩
            have HL5 : Hid (l5 = l4 ++ (if x.testBit 4 then sg4 ts else [])) := by
              show l5 = _
              rw [t4, hl5]; simp
            rw [← hW5]
            clear hW5 hl5
            have h59 := writeByte_any w.heap.size w.heap.size (Lib.byteCells l5) 59 W5 HS5.out.1 (by rw [Lib.byteCells_length]; have := HS5.out.2.2; omega) HS5.out.2.1.size
            have h59' : Calls Tryf.prog 30 #[.pointer (some ⟨w.heap.size, 0, none⟩), .int .u8 59] W5 fun e w' => e = .returned .nilIface ∧ Lib.BuilderAt 58 5 w.heap.size w.heap.size (.pointer (some ⟨w.heap.size, 0, none⟩)) (Lib.byteCells l5 ++ [.int .u8 59]) w' ∧ Below w.heap.size W5 w' ∧ KT w.heap.size W5 w' := h59
            clear h59
            go_wp2_with fail
            refine h59'.mono ?_
            rintro e W6 ⟨rfl, hI6, hB6, _⟩
            have hI6' : Lib.IsBuilder 58 5 w.heap.size w.heap.size (Lib.byteCells (l5 ++ [59])) W6 := .inr (by
              have e : Lib.byteCells (l5 ++ [59]) = Lib.byteCells l5 ++ [.int .u8 59] := by simp [Lib.byteCells]
              rw [e]; exact hI6)
            have hst := Tryf.Builder_String_any w.heap.size w.heap.size (l5 ++ [59]) W6 hI6' (Nat.le_trans HS5.out.2.1.size hB6.size)
            have HB6 : Hid (Below w.heap.size w W6) := HS5.out.2.1.trans hB6
            clear h59' hI6 hI6' hB6
            go_wp2_with fail
            refine hst.mono ?_
            rintro e W7 ⟨rfl, hB7⟩
            go_wp2_with fail
            go_ret
            refine ⟨?_, HB6.out.trans hB7⟩
            have hl : l5 ++ [59] = itemL mo s wd ts x := by
              rw [HL5.out, HL4.out, HL3.out, HL2.out, HL1.out, HL0.out]
              rfl
            rw [hl]
            rfl
          · have hh4 := has_any x hx 4 (by omega) W4
            rw [t4] at hh4
            go_wp2_with fail
            refine hh4.mono ?_
            rintro e w' ⟨rfl, hw⟩
            subst w'
            clear hh4
            have HOK4 : Hid (Ok [] (ts.map ckt)) := ok4 ts hts
            obtain ⟨ao, cap, htv, _, htc⟩ := HC.out.tm
            have r4 := (HC.out.below HS4.out.2.1).c4
            rw [htv] at r4
            have HTC : Hid (∀ (j : Nat) (t : Int × Int), ts[j]? = some t → ∃ g, ao = some ⟨g, 0, none⟩ ∧ w.cell? ⟨g, j * 2, none⟩ = some (.int .i64 t.1) ∧ w.cell? ⟨g, j * 2 + 1, none⟩ = some (.int .i64 t.2)) := htc
            clear htc htv
            go_wp2_with fail
            clear r4
            go_loopw [8, 60] (fun v i wr => ∃ k : Nat, i = .int .i64 (k : Int) ∧ k ≤ ts.length ∧ Hid (wr.ownsRow W4.heap.size 9 1 v k (((ts.take k).map ckt).map Value.string) ∧ Below W4.heap.size W4 wr)) (fun _ i _ => ts.length - (intOf i).toNat)
            case atStart => exact ⟨0, rfl, by omega, World.ownsRow_nil _ _ _ _, Below.refl _ _⟩
            case round =>
            obtain ⟨k, rfl, hk, HR⟩ := hrel
            by_cases hlt : k < ts.length
            · have hlt1 : decide ((k : Int) < (ts.length : Int)) = true := by simp; omega
              obtain ⟨g, rfl, hg1, hg2⟩ := HTC.out k ts[k] (List.getElem?_eq_getElem hlt)
              have hbw : Below w.heap.size w wr := HS4.out.2.1.trans (HR.out.2.mono HS4.out.2.1.size)
              have k1 := cell_keep hbw hg1
              have k2 := cell_keep hbw hg2
              have hki : (k : Int) < (ts.length : Int) := by omega
              have hg0 : g < wr.heap.size := World.block_lt_of_cell? wr ⟨g, k * 2, none⟩ k1
              have hgn : ¬ g = wr.heap.size := by omega
              have htk : ts[k]? = some ts[k] := List.getElem?_eq_getElem hlt
              generalize ts[k] = t at *
              go_wp2_with fail
              obtain ⟨w1, hw1⟩ : ∃ W : World, W = wr.alloc (.cells #[.int .i64 t.1, .int .i64 t.2] 47) := ⟨_, rfl⟩
              have hb47 : w1.heap[wr.heap.size]? = some (.cells #[.int .i64 t.1, .int .i64 t.2] 47) := by rw [hw1]; exact World.alloc_heap_new wr _
              have e0 : w1.cell? ⟨wr.heap.size, 0, none⟩ = some (.int .i64 t.1) := by rw [hw1]; simp
              have e1 : w1.cell? ⟨wr.heap.size, 1, none⟩ = some (.int .i64 t.2) := by rw [hw1]; simp
              have z1 : w1.heap.size = wr.heap.size + 1 := by rw [hw1]; simp
              have x0 : ∀ W, SX W4 wr.heap.size t W → W.cell? ⟨wr.heap.size, 0, none⟩ = some (.int .i64 t.1) := fun W hb => hb.2.1
              have x1 : ∀ W, SX W4 wr.heap.size t W → W.cell? ⟨wr.heap.size, 1, none⟩ = some (.int .i64 t.2) := fun W hb => hb.2.2
              have HR1 : Hid (w1.ownsRow W4.heap.size 9 1 u8 k (((ts.take k).map ckt).map Value.string) ∧ Below W4.heap.size W4 w1 ∧ wr.heap.size ≤ w1.heap.size) := by
                refine ⟨?_, ?_, by omega⟩
                · rw [hw1]; exact HR.out.1.alloc _
                · rw [hw1]; exact HR.out.2.alloc HR.out.2.size _
              have hnr : u8.ownBlock ≠ some wr.heap.size := by
                rcases HR1.out.1.2 with ⟨h, _⟩ | ⟨g', cap', cur, h, _, hg', _⟩
                · rw [h]; simp [Value.ownBlock]
                · intro e
                  rw [h] at e
                  have : g' = wr.heap.size := by simpa [Value.ownBlock] using e
                  rw [this, hb47] at hg'
                  cases hg'
              have HSX : Hid (SX W4 wr.heap.size t w1 ∧ u8.ownBlock ≠ some wr.heap.size) := ⟨⟨HR1.out.2.1, e0, e1⟩, hnr⟩
              rw [← hw1]
              clear hw1 e0 e1 k1 k2 hg0 hgn hg1 hg2 z1 hb47 hnr
              have cbl : ∀ m, (cb m).length = 4 := fun m => rfl
              refine wp_region_held_drew (S := fun w' => SX W4 wr.heap.size t w') (by kernel_rfl) (HSX.out.1.below (Below.refl _ _).drew) (fun hHeld => ?_)
              refine wpAnyH_take (i := 0) (v := ?v0_121) rfl (by kernel_rfl) (by kernel_rfl) (by kernel_rfl) (fun _ _ _ h => h) (Or.inl ⟨by rfl, ?y0_121⟩) (by assumption) ?r0_121
              case y0_121 => intro w hSw; go_simp; try with_reducible rfl
              simp only [List.getElem_toArray, List.getElem_cons_succ, List.getElem_cons_zero, Act.put, List.setIfInBounds_toArray, List.set_cons_zero, List.set_cons_succ]
              refine wpAnyH_take (i := 1) (v := ?v1_122) rfl (by kernel_rfl) (by kernel_rfl) (by kernel_rfl) (fun _ _ _ h => h) (Or.inl ⟨by rfl, ?y1_122⟩) (by assumption) ?r1_122
              case y1_122 => intro w hSw; go_simp; try with_reducible rfl
              simp only [List.getElem_toArray, List.getElem_cons_succ, List.getElem_cons_zero, Act.put, List.setIfInBounds_toArray, List.set_cons_zero, List.set_cons_succ]
              refine wpAnyH_take (i := 2) (v := ?v2_123) rfl (by kernel_rfl) (by kernel_rfl) (by kernel_rfl) (fun _ _ _ h => h) (Or.inl ⟨by rfl, ?y2_123⟩) (by assumption) ?r2_123
              case y2_123 => intro w hSw; go_simp; try with_reducible rfl
              simp only [List.getElem_toArray, List.getElem_cons_succ, List.getElem_cons_zero, Act.put, List.setIfInBounds_toArray, List.set_cons_zero, List.set_cons_succ]
              refine wpAnyH_take (i := 5) (v := ?v5_124) rfl (by kernel_rfl) (by kernel_rfl) (by kernel_rfl) (fun _ _ _ h => h) (Or.inl ⟨by rfl, ?y5_124⟩) (by assumption) ?r5_124
              case y5_124 => intro w hSw; go_simp; try with_reducible rfl
              simp only [List.getElem_toArray, List.getElem_cons_succ, List.getElem_cons_zero, Act.put, List.setIfInBounds_toArray, List.set_cons_zero, List.set_cons_succ]
              refine wpAnyH_take (i := 6) (v := ?v6_125) rfl (by kernel_rfl) (by kernel_rfl) (by kernel_rfl) (fun _ _ _ h => h) (Or.inl ⟨by rfl, ?y6_125⟩) (by assumption) ?r6_125
              case y6_125 => intro w hSw; go_simp; try with_reducible rfl
              simp only [List.getElem_toArray, List.getElem_cons_succ, List.getElem_cons_zero, Act.put, List.setIfInBounds_toArray, List.set_cons_zero, List.set_cons_succ]
              refine wpAnyH_ready (rs := [3]) (by kernel_rfl) (by simp) ?_
              refine AllReadyH.cons rfl (fun K hK => ?_) AllReadyH.nil
              go_simp
              refine (clockText_any t.1 _).mono ?_
              rintro e w2 ⟨rfl, hb2⟩
              have hh2 : Below w1.heap.size w1 w2 := ((Below.refl w1.heap.size w1).drew).trans hb2
              refine hK.out _ _ (HSX.out.1.below hh2) (fun hH3 => ?_)
              clear hK K hb2
              refine wpAnyH_take (i := 4) (v := ?v4_126) rfl (by kernel_rfl) (by kernel_rfl) (by kernel_rfl) (fun _ _ _ h => h) (Or.inl ⟨by rfl, ?y4_126⟩) (by assumption) ?r4_126
              case y4_126 => intro w hSw; go_simp; try with_reducible rfl
              simp only [List.getElem_toArray, List.getElem_cons_succ, List.getElem_cons_zero, Act.put, List.setIfInBounds_toArray, List.set_cons_zero, List.set_cons_succ]
              refine wpAnyH_ready (rs := [7]) (by kernel_rfl) (by simp) ?_
              refine AllReadyH.cons rfl (fun K hK => ?_) AllReadyH.nil
              go_simp
              refine (clockText_any t.2 _).mono ?_
              rintro e w3 ⟨rfl, hb3⟩
              have hh3 : Below w1.heap.size w1 w3 := hh2.trans (hb3.mono hh2.size)
              refine hK.out _ _ (HSX.out.1.below hh3) (fun hH7 => ?_)
              clear hK K hb3
              refine wpAnyH_take (i := 8) (v := ?v8_127) rfl (by kernel_rfl) (by kernel_rfl) (by kernel_rfl) (fun _ _ _ h => h) (Or.inl ⟨by rfl, ?y8_127⟩) (by assumption) ?r8_127
              case y8_127 => intro w hSw; go_simp; try with_reducible rfl
              simp only [List.getElem_toArray, List.getElem_cons_succ, List.getElem_cons_zero, Act.put, List.setIfInBounds_toArray, List.set_cons_zero, List.set_cons_succ]
              refine wpAnyH_ready (rs := [9]) (by kernel_rfl) (by simp) ?_
              refine AllReadyH.cons rfl (fun K hK => ?_) AllReadyH.nil
              go_simp
              obtain ⟨w4, hw4⟩ : ∃ W : World, W = w3.alloc (.cells #[.string (⟨(cb t.1).toArray⟩ ++ ⟨#[45]⟩ ++ ⟨(cb t.2).toArray⟩)] 9) := ⟨_, rfl⟩
              have hh4 : Below w1.heap.size w1 w4 := by rw [hw4]; exact hh3.alloc hh3.size _
              have c4 : w4.cell? ⟨w3.heap.size, 0, none⟩ = some (.string (⟨(cb t.1).toArray⟩ ++ ⟨#[45]⟩ ++ ⟨(cb t.2).toArray⟩)) := by rw [hw4]; simp
              rw [← hw4]
              clear hw4
              refine hK.out _ _ (HSX.out.1.below hh4) (fun hH9 => ?_)
              clear hK K
              refine wpAnyH_ready (rs := [10]) (by kernel_rfl) (by simp) ?_
              refine AllReadyH.cons rfl (fun K hK => ?_) AllReadyH.nil
              refine app65 w4 (by rfl) _ _ (by rfl) W4.heap.size u8 k _ (by rfl) (own_below HR1.out.1 hh4 (Nat.le_refl _)) w3.heap.size 1 (.string (⟨(cb t.1).toArray⟩ ++ ⟨#[45]⟩ ++ ⟨(cb t.2).toArray⟩)) (by rfl) c4 rfl (by omega) (Nat.le_trans HR1.out.2.1.size hh4.size) ?_
              intro g' cap' w5 hown5 hgrow5 hat5 hlt5
              simp only [List.getElem_toArray, List.getElem_cons_succ, List.getElem_cons_zero, Act.put, List.setIfInBounds_toArray, List.set_cons_zero, List.set_cons_succ]
              have hS5 : SX W4 wr.heap.size t w5 := (HSX.out.1.below hh4).grown (own_below HR1.out.1 hh4 (Nat.le_refl _)) hgrow5 HSX.out.2
              refine hK.out _ _ hS5 (fun hH10 => ?_)
              clear hK K
              refine wpAnyH_take (i := 11) (v := ?v11_128) rfl (by kernel_rfl) (by kernel_rfl) (by kernel_rfl) (fun _ _ _ h => h) (Or.inl ⟨by rfl, ?y11_128⟩) (by assumption) ?r11_128
              case y11_128 => intro w hSw; go_simp; try with_reducible rfl
              simp only [List.getElem_toArray, List.getElem_cons_succ, List.getElem_cons_zero, Act.put, List.setIfInBounds_toArray, List.set_cons_zero, List.set_cons_succ]
              refine wpAnyH_done (by kernel_rfl) ?_ _
              have HN5 : Hid (w5.ownsRow W4.heap.size 9 1 (.slice (some ⟨g', 0, none⟩) (k + 1) cap') (k + 1) (((ts.take (k + 1)).map ckt).map Value.string) ∧ Below W4.heap.size W4 w5) := by
                refine ⟨?_, hS5.1⟩
                rw [List.take_add_one, htk]
                simp only [Option.toList_some, List.map_append, List.map_cons, List.map_nil]
                exact hown5
              clear hown5 hS5 hgrow5 hat5 hlt5 c4 hh4 hh3 hh2 hH10 hH9 hH7 hH3 hHeld x0 x1
              have hwk : IntKind.i64.wrap ((k : Int) + 1) = (k : Int) + 1 := by rw [IntKind.wrap_i64]; omega
              go_wp2_with fail
              go_roundw
              case rel => exact ⟨k + 1, by simp, by omega, HN5⟩
              case measure => simp [intOf]; omega
            · obtain rfl : k = ts.length := by omega
              have hrow := HR.out.1
              rw [List.take_length, ← List.length_map (f := ckt)] at hrow
              have hbl := HR.out.2
              have hi4 := isBuilder_below HS4.out.1 hbl
              have cw4 := writeSet_none w.heap.size w.heap.size W4.heap.size l4 u8 (ts.map ckt) wr hi4 hrow (by have := hbl.size; have := HS4.out.2.1.size; omega) (by have := HS4.out.2.2; omega) (by have := (HOK4.out).j; omega) (by have := (HOK4.out).n; omega)
              have HV4 : Hid (Below w.heap.size w wr) := HS4.out.2.1.trans (hbl.mono HS4.out.2.1.size)
              clear hrow hbl hi4
              go_wp2_with fail
              refine cw4.mono ?_
              rintro e W5 ⟨rfl, hI5, hB5⟩
              obtain ⟨l5, hl5⟩ : ∃ l, l = l4 ++ sg4 ts := ⟨_, rfl⟩
              have HS5 : Hid (Lib.IsBuilder 58 5 w.heap.size w.heap.size (Lib.byteCells l5) W5 ∧ Below w.heap.size w W5 ∧ l5.length ≤ 20000000009) := by
                refine ⟨?_, HV4.out.trans hB5, ?_⟩
                · rw [hl5]; exact hI5
                · rw [hl5, List.length_append]
                  have h1 := HS4.out.2.2
                  have h2 := (HOK4.out).s
                  have h3 : (sg4 ts).length ≤ 4000000001 := h2
                  omega
              have HL5 : Hid (l5 = l4 ++ (if x.testBit 4 then sg4 ts else [])) := by
                show l5 = _
                rw [t4, if_pos rfl]; exact hl5
              clear hI5 hB5 hl5 cw4
              have h59 := writeByte_any w.heap.size w.heap.size (Lib.byteCells l5) 59 W5 HS5.out.1 (by rw [Lib.byteCells_length]; have := HS5.out.2.2; omega) HS5.out.2.1.size
              have h59' : Calls Tryf.prog 30 #[.pointer (some ⟨w.heap.size, 0, none⟩), .int .u8 59] W5 fun e w' => e = .returned .nilIface ∧ Lib.BuilderAt 58 5 w.heap.size w.heap.size (.pointer (some ⟨w.heap.size, 0, none⟩)) (Lib.byteCells l5 ++ [.int .u8 59]) w' ∧ Below w.heap.size W5 w' ∧ KT w.heap.size W5 w' := h59
              clear h59
              go_wp2_with fail
              refine h59'.mono ?_
              rintro e W6 ⟨rfl, hI6, hB6, _⟩
              have hI6' : Lib.IsBuilder 58 5 w.heap.size w.heap.size (Lib.byteCells (l5 ++ [59])) W6 := .inr (by
                have e : Lib.byteCells (l5 ++ [59]) = Lib.byteCells l5 ++ [.int .u8 59] := by simp [Lib.byteCells]
                rw [e]; exact hI6)
              have hst := Tryf.Builder_String_any w.heap.size w.heap.size (l5 ++ [59]) W6 hI6' (Nat.le_trans HS5.out.2.1.size hB6.size)
              have HB6 : Hid (Below w.heap.size w W6) := HS5.out.2.1.trans hB6
              clear h59' hI6 hI6' hB6
              go_wp2_with fail
              refine hst.mono ?_
              rintro e W7 ⟨rfl, hB7⟩
              go_wp2_with fail
              go_ret
              refine ⟨?_, HB6.out.trans hB7⟩
              have hl : l5 ++ [59] = itemL mo s wd ts x := by
                rw [HL5.out, HL4.out, HL3.out, HL2.out, HL1.out, HL0.out]
                rfl
              rw [hl]
              rfl

end Go.Proofs.Qxb6615962aFmt
