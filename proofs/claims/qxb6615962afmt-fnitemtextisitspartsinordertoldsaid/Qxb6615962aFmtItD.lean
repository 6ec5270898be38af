import Derived.Test.Qxb6615962aFmtItC
import Derived.Maps.AppendAt
namespace Go.Proofs.Qxb6615962aFmt
open Go.RowKit Go.Shelf
attribute [local go_sem] Oper.semAt_some

theorem own_below {n₀ B : Nat} {w w' : World} {e : TypeId} {v : Value} {k : Nat} {xs : List Value} (h : w.ownsRow B e 1 v k xs) (hb : Below n₀ w w') (hn : w.heap.size ≤ n₀) : w'.ownsRow B e 1 v k xs := by
  obtain ⟨h1, h2⟩ := h
  refine ⟨h1, ?_⟩
  rcases h2 with h2 | ⟨g, cap, cur, rfl, hB, hg, h3⟩
  · exact .inl h2
  · refine .inr ⟨g, cap, cur, rfl, hB, ?_, h3⟩
    have hlt : g < w.heap.size := by
      rcases Nat.lt_or_ge g w.heap.size with h | h
      · exact h
      · rw [Array.getElem?_eq_none h] at hg; cases hg
    rw [hb.block g (by omega)]
    exact hg
theorem boxed_below {n₀ B : Nat} {w w' : World} {t : TypeId} {v : Value} (h : Boxed w B t v) (hb : Below n₀ w w') (hn : w.heap.size ≤ n₀) : Boxed w' B t v := (hb.block B (by have := h.lt; omega)).trans h
/-- one element's text -/
def txt (nm : Int → ByteArray) (p : Int × Int) : ByteArray := if p.1 < p.2 then nm p.1 ++ (⟨#[45]⟩ ++ nm p.2) else nm p.1
theorem Kp.trans {n₀ : Nat} {A B C : World} (h : Kp n₀ A B) (k : Kp n₀ B C) : Kp n₀ A C := ⟨h.1.trans k.1, fun i cs fr hi => k.2 i cs fr (h.2 i cs fr hi)⟩
theorem Kp.put {n₀ l : Nat} {W : World} {o : Obj} (hl : n₀ ≤ l) (ho : W.heap[l]? = some o) (hc : o.isCells = false) (o' : Obj) : Kp n₀ W (W.putObj l o') := by
  refine ⟨⟨rfl, rfl, rfl, by simp, fun k hk => World.putObj_heap_other (by omega)⟩, fun k cs fr hk => ?_⟩
  rw [World.putObj_heap_other]
  · exact hk
  · intro e
    subst e
    rw [ho] at hk
    cases hk
    cases hc
theorem keepsOthers_of_below {W W' : World} (h : Below W.heap.size W W') : KeepsOthers W W' := ⟨h.size, fun k _ hk _ => (h.block k (Array.getElem?_eq_some_iff.1 hk).1).trans hk⟩
theorem not_own9 {W : World} {B n₀ k : Nat} {t : TypeId} {v u : Value} {xs : List Value} (hv : Boxed W B t u) (ht : t ≠ 9) (hrow : W.ownsRow n₀ 9 1 v k xs) : some B ≠ v.ownBlock := by
  rcases hrow.2 with ⟨rfl, _⟩ | ⟨g, cap, cur, rfl, _, hg, _⟩
  · simp [Value.ownBlock]
  · intro e
    have : B = g := by simpa [Value.ownBlock] using e
    subst this
    rw [show W.heap[B]? = _ from hv] at hg
    cases hg
    exact ht rfl
theorem keep40 {W w1 : World} {B n₀ k : Nat} {v v' : Value} {xs : List Value} {tmp : Obj} (hv : Boxed W B 65 v) (hrow : W.ownsRow n₀ 9 1 v k xs) (hgrow : (W.alloc tmp).grownBy w1 v.ownBlock) (i : Nat) (cs : Array Value) (fr : Nat × Nat) (hi : W.heap[i]? = some (.cells cs 40 fr)) :
    (w1.setCell ⟨B, 0, none⟩ v').heap[i]? = some (.cells cs 40 fr) := by
  have hlt := (Array.getElem?_eq_some_iff.1 hi).1
  have hne : i ≠ B := by
    intro e
    subst e
    rw [show W.heap[i]? = _ from hv] at hi
    cases hi
  rw [Below.heap_setCell _ _ _ _ hne, hgrow.block i (by simp; omega) ?_, Below.heap_alloc W tmp i hlt]
  · exact hi
  · rcases hrow.2 with ⟨rfl, _⟩ | ⟨g, cap, cur, rfl, _, hg, _⟩
    · simp [Value.ownBlock]
    · intro e
      have : i = g := by simpa [Value.ownBlock] using e
      subst this
      rw [hi] at hg
      cases hg
theorem info9 : (Tryf.prog.info? 9).map (fun i => (i.zero, i.size, i.bytes)) = some (some (.string ⟨#[]⟩), 1, 16) := by kernel_rfl

set_option maxRecDepth 100000 in
set_option maxHeartbeats 4000000 in
theorem runTexts_25_24 (v0 : Value) (xs : List (Int × Int)) (Pn : Int → Prop) (nm : Int → ByteArray) (w : World) (hseq : ∀ W, Below w.heap.size w W → SeqB Fence.wide 3 Tryf.prog 24 #[v0] encs (Kp w.heap.size) xs W)
    (hP : ∀ p ∈ xs, Pn p.1 ∧ Pn p.2) (hlen : xs.length ≤ 1000000) (hsz : ∀ m, Pn m → (nm m).size ≤ 1000) (hname : ∀ (m : Int) (W : World), Pn m → Below w.heap.size w W → Calls Tryf.prog 25 #[.int .i64 m] W fun e W' => e = .returned (.string (nm m)) ∧ Below W.heap.size W W') :
    Calls Tryf.prog 23 #[.func (.func 24) #[v0] #[], .func (.func 25) #[] #[]] w fun e w' => ∃ v, e = .returned v ∧ w'.ownsRow w.heap.size 9 1 v xs.length ((xs.map (txt nm)).map Value.string) ∧ Below w.heap.size w w' := by
  refine (callsIn_wide (n := 4)).1 ?_
  obtain ⟨i0, hi, hz0, hz1, hz2⟩ := info_parts info9
  have HS : Hid (∀ W, Below w.heap.size w W → SeqB Fence.wide 3 Tryf.prog 24 #[v0] encs (Kp w.heap.size) xs W) := hseq
  have HN : Hid (∀ (m : Int) (W : World), Pn m → Below w.heap.size w W → Calls Tryf.prog 25 #[.int .i64 m] W fun e W' => e = .returned (.string (nm m)) ∧ Below W.heap.size W W') := hname
  clear hseq hname
  refine callsIn_of_wp_marks Tryf.func23 rfl trivial ?_ rfl
  simp only [Tryf.ntmps23, List.size_toArray, List.length_cons, List.length_nil, Nat.reduceAdd, Nat.reduceSub, Array.replicate_succ, Array.replicate_zero, List.push_toArray, List.append_toArray, List.nil_append, List.cons_append]
  gi_wp2_with fail
  have hB0 : Below w.heap.size w ((w.alloc (.cells #[.func (.func 25) #[] #[]] 68)).alloc (.cells #[.slice none 0 0] 65)) := ((Below.refl _ w).alloc (Nat.le_refl _) _).alloc (by simp) _
  have bN := Boxed.new w 68 (.func (.func 25) #[] #[])
  have bO := Boxed.new (w.alloc (.cells #[.func (.func 25) #[] #[]] 68)) 65 (.slice none 0 0)
  rw [World.size_alloc] at bO
  refine rangeB (α := Int × Int) rfl (by omega) (gf := 24) (fst := #[v0]) rfl trivial (enters_of Tryf.func24 (by kernel_rfl) rfl) (encs := encs) (Kp := Kp w.heap.size) (xs := xs) (HS.out _ hB0) (fun h k => Kp.trans h k) (fun W l o o' hl ho hc => Kp.put (by simp at hl; omega) ho hc o') (fun _ => rfl)
    (fun pre W => (∃ v, Boxed W (w.heap.size + 1) 65 v ∧ W.ownsRow w.heap.size 9 1 v pre.length ((pre.map (txt nm)).map Value.string) ∧ True) ∧ Boxed W w.heap.size 68 (.func (.func 25) #[] #[]) ∧ Below w.heap.size w W)
    (OwnFrom.and (Own.from (holdsRow_own w.heap.size (w.heap.size + 1) 65 9 1 (fun pre : List (Int × Int) => pre.length) (fun pre => (pre.map (txt nm)).map Value.string) (fun _ _ => True)) _) (OwnFrom.and (Own.from (boxed_own w.heap.size 68 (fun _ => .func (.func 25) #[] #[])) _) (ownFrom_below (Nat.le_refl _) (by simp; omega))))
    ⟨⟨_, bO, World.ownsRow_nil _ _ _ _, trivial⟩, bN.alloc _, hB0⟩
    (fun x => { tmps := #[.func (.func 24) #[v0] #[], .func (.func 25) #[] #[], undef, .pointer (some ⟨w.heap.size, 0, none⟩), .slice none 0 0, .pointer (some ⟨w.heap.size + 1, 0, none⟩), .int .i64 x.1, .int .i64 x.2, undef, .func (.func 24) #[v0] #[], .int .i64 x.1, .int .i64 x.2, undef, undef, undef, undef, undef, undef, undef, undef, undef, undef, undef, undef, undef, undef, undef, undef, undef], defers := [] }) ?assign ?body ?done
  case assign =>
    intro l x W K hK
    dsimp only [encs]
    gi_wp2_with fail
    exact hK
  case body =>
    rintro l pre x W ⟨⟨v, hv, hrow, _⟩, hf, hB⟩ hpre
    have hmem : x ∈ xs := by obtain ⟨r, hr⟩ := hpre; rw [← hr]; simp
    have hpl : pre.length + 1 ≤ xs.length := by obtain ⟨r, hr⟩ := hpre; rw [← hr]; simp
    obtain ⟨p1, p2⟩ := hP x hmem
    have hfc := hf.cell
    have z1 := hsz x.1 p1
    have z2 := hsz x.2 p2
    have z3 : ((⟨#[45]⟩ : ByteArray) ++ nm x.2).size ≤ 2000 := by rw [ByteArray.size_append]; show 1 + _ ≤ _; omega
    have z4 : (nm x.1 ++ ((⟨#[45]⟩ : ByteArray) ++ nm x.2)).size ≤ 4000 := by rw [ByteArray.size_append]; omega
    have hc1 := HN.out x.1 W p1 hB
    have HV : Hid (Boxed W (w.heap.size + 1) 65 v ∧ W.ownsRow w.heap.size 9 1 v pre.length ((pre.map (txt nm)).map Value.string) ∧ Boxed W w.heap.size 68 (.func (.func 25) #[] #[]) ∧ Below w.heap.size w W) := ⟨hv, hrow, hf, hB⟩
    clear hv hrow hf hB
    gi_wp2_with fail
    refine ⟨trivial, ?_⟩
    refine (CallsIn.inRound l (callsIn_wide.2 hc1)).mono ?_
    rintro e W1 ⟨rfl, hb1⟩
    clear hc1 hfc
    by_cases hgt : x.1 < x.2
    · have hfc := (boxed_below HV.out.2.2.1 hb1 (Nat.le_refl _)).cell
      have hc2 := HN.out x.2 W1 p2 (HV.out.2.2.2.trans (hb1.mono HV.out.2.2.2.size))
      gi_wp2_with fail
      refine ⟨trivial, ?_⟩
      refine (CallsIn.inRound l (callsIn_wide.2 hc2)).mono ?_
      rintro e W2 ⟨rfl, hb2'⟩
      have hbA : Below W.heap.size W W2 := hb1.trans (hb2'.mono hb1.size)
      clear hc2 hfc hb1 hb2'
      have hv2 := boxed_below HV.out.1 hbA (Nat.le_refl _)
      have hrow2 := own_below HV.out.2.1 hbA (Nat.le_refl _)
      have hf2 := boxed_below HV.out.2.2.1 hbA (Nat.le_refl _)
      have hB2 := HV.out.2.2.2.trans (hbA.mono HV.out.2.2.2.size)
      have hcA := hv2.cell
      gi_wp2_with (gi_at_builtin; refine wpListIn_append_own _ rfl _ _ 65 rfl w.heap.size 9 i0 (.string ⟨#[]⟩) 1 16 Tryf.underlying65 hi hz0 hz1 hz2 rfl (by decide) _ _ _ rfl (hrow2.alloc _) ⟨W2.heap.size, 0, none⟩ 1 1 [.string (nm x.1 ++ (⟨#[45]⟩ ++ nm x.2))] rfl rfl (cell_one_new _ _ _) (by simp [Value.oneCell']) (by unfold maxLen; omega) (by omega) (by have := hB2.size; simp; omega) ?_; intro v' w1 hown' hgrow _; obtain ⟨g', cap', rfl⟩ := ownsRow_succ hown'; obtain ⟨hv1, hv2', hr2, hk2, hb2⟩ := hv2.appended (by decide) hrow2 hB2.size (by omega) hown' hgrow; have hc1 := hv1.cell; have hf1 := hv1.frozen)
      have e1 : ((pre ++ [x]).map (txt nm)).map Value.string = (pre.map (txt nm)).map Value.string ++ [.string (nm x.1 ++ (⟨#[45]⟩ ++ nm x.2))] := by
        rw [List.map_append, List.map_append]
        simp only [List.map_cons, List.map_nil, txt]
        rw [if_pos hgt]
      refine ⟨?_, ⟨?_, ?_⟩, ⟨_, hv2', ?_, trivial⟩, ?_, ?_⟩
      · exact ((keepsOthers_of_below hbA).trans hk2).from _
      · exact (hbA.mono HV.out.2.2.2.size).trans hb2
      · intro i cs fr hi
        exact keep40 hv2 hrow2 hgrow i cs fr ((hbA.block i (Array.getElem?_eq_some_iff.1 hi).1).trans hi)
      · rw [e1]; simpa using hr2
      · exact ((hf2.alloc _).kept hgrow (not_own9 hf2 (by decide) hrow2)).other (by omega) _
      · exact hB2.trans hb2
    · obtain ⟨W2, hW2⟩ : ∃ W2, W2 = W1 := ⟨_, rfl⟩
      have hbA : Below W.heap.size W W2 := by rw [hW2]; exact hb1
      rw [← hW2]
      clear hW2 hb1
      have hv2 := boxed_below HV.out.1 hbA (Nat.le_refl _)
      have hrow2 := own_below HV.out.2.1 hbA (Nat.le_refl _)
      have hf2 := boxed_below HV.out.2.2.1 hbA (Nat.le_refl _)
      have hB2 := HV.out.2.2.2.trans (hbA.mono HV.out.2.2.2.size)
      have hcA := hv2.cell
      gi_wp2_with (gi_at_builtin; refine wpListIn_append_own _ rfl _ _ 65 rfl w.heap.size 9 i0 (.string ⟨#[]⟩) 1 16 Tryf.underlying65 hi hz0 hz1 hz2 rfl (by decide) _ _ _ rfl (hrow2.alloc _) ⟨W2.heap.size, 0, none⟩ 1 1 [.string (nm x.1)] rfl rfl (cell_one_new _ _ _) (by simp [Value.oneCell']) (by unfold maxLen; omega) (by omega) (by have := hB2.size; simp; omega) ?_; intro v' w1 hown' hgrow _; obtain ⟨g', cap', rfl⟩ := ownsRow_succ hown'; obtain ⟨hv1, hv2', hr2, hk2, hb2⟩ := hv2.appended (by decide) hrow2 hB2.size (by omega) hown' hgrow; have hc1 := hv1.cell; have hf1 := hv1.frozen)
      have e1 : ((pre ++ [x]).map (txt nm)).map Value.string = (pre.map (txt nm)).map Value.string ++ [.string (nm x.1)] := by
        rw [List.map_append, List.map_append]
        simp only [List.map_cons, List.map_nil, txt]
        rw [if_neg (by omega)]
      refine ⟨?_, ⟨?_, ?_⟩, ⟨_, hv2', ?_, trivial⟩, ?_, ?_⟩
      · exact ((keepsOthers_of_below hbA).trans hk2).from _
      · exact (hbA.mono HV.out.2.2.2.size).trans hb2
      · intro i cs fr hi
        exact keep40 hv2 hrow2 hgrow i cs fr ((hbA.block i (Array.getElem?_eq_some_iff.1 hi).1).trans hi)
      · rw [e1]; simpa using hr2
      · exact ((hf2.alloc _).kept hgrow (not_own9 hf2 (by decide) hrow2)).other (by omega) _
      · exact hB2.trans hb2
  case done =>
    rintro D W hD ⟨⟨v, hv, hrow, _⟩, hf, hB⟩ hK
    have hc := hv.cell
    gi_wp2_with fail
    refine ⟨by simp, .inl ⟨_, _, rfl, run_takeDeferred hK, ?_⟩⟩
    exact ⟨_, results_tmp rfl _ _ _, v, rfl, ownsRow_putObj hrow _ hK rfl, hB.trans (belowK_b (w := w) (Nat.le_refl _) W D _ _ (by simp at hD; omega) hK rfl rfl)⟩
set_option maxRecDepth 100000 in
set_option maxHeartbeats 4000000 in
theorem runTexts_28_24 (v0 : Value) (xs : List (Int × Int)) (Pn : Int → Prop) (nm : Int → ByteArray) (w : World) (hseq : ∀ W, Below w.heap.size w W → SeqB Fence.wide 3 Tryf.prog 24 #[v0] encs (Kp w.heap.size) xs W)
    (hP : ∀ p ∈ xs, Pn p.1 ∧ Pn p.2) (hlen : xs.length ≤ 1000000) (hsz : ∀ m, Pn m → (nm m).size ≤ 1000) (hname : ∀ (m : Int) (W : World), Pn m → Below w.heap.size w W → Calls Tryf.prog 28 #[.int .i64 m] W fun e W' => e = .returned (.string (nm m)) ∧ Below W.heap.size W W') :
    Calls Tryf.prog 23 #[.func (.func 24) #[v0] #[], .func (.func 28) #[] #[]] w fun e w' => ∃ v, e = .returned v ∧ w'.ownsRow w.heap.size 9 1 v xs.length ((xs.map (txt nm)).map Value.string) ∧ Below w.heap.size w w' := by
  refine (callsIn_wide (n := 4)).1 ?_
  obtain ⟨i0, hi, hz0, hz1, hz2⟩ := info_parts info9
  have HS : Hid (∀ W, Below w.heap.size w W → SeqB Fence.wide 3 Tryf.prog 24 #[v0] encs (Kp w.heap.size) xs W) := hseq
  have HN : Hid (∀ (m : Int) (W : World), Pn m → Below w.heap.size w W → Calls Tryf.prog 28 #[.int .i64 m] W fun e W' => e = .returned (.string (nm m)) ∧ Below W.heap.size W W') := hname
  clear hseq hname
  refine callsIn_of_wp_marks Tryf.func23 rfl trivial ?_ rfl
  simp only [Tryf.ntmps23, List.size_toArray, List.length_cons, List.length_nil, Nat.reduceAdd, Nat.reduceSub, Array.replicate_succ, Array.replicate_zero, List.push_toArray, List.append_toArray, List.nil_append, List.cons_append]
  gi_wp2_with fail
  have hB0 : Below w.heap.size w ((w.alloc (.cells #[.func (.func 28) #[] #[]] 68)).alloc (.cells #[.slice none 0 0] 65)) := ((Below.refl _ w).alloc (Nat.le_refl _) _).alloc (by simp) _
  have bN := Boxed.new w 68 (.func (.func 28) #[] #[])
  have bO := Boxed.new (w.alloc (.cells #[.func (.func 28) #[] #[]] 68)) 65 (.slice none 0 0)
  rw [World.size_alloc] at bO
  refine rangeB (α := Int × Int) rfl (by omega) (gf := 24) (fst := #[v0]) rfl trivial (enters_of Tryf.func24 (by kernel_rfl) rfl) (encs := encs) (Kp := Kp w.heap.size) (xs := xs) (HS.out _ hB0) (fun h k => Kp.trans h k) (fun W l o o' hl ho hc => Kp.put (by simp at hl; omega) ho hc o') (fun _ => rfl)
    (fun pre W => (∃ v, Boxed W (w.heap.size + 1) 65 v ∧ W.ownsRow w.heap.size 9 1 v pre.length ((pre.map (txt nm)).map Value.string) ∧ True) ∧ Boxed W w.heap.size 68 (.func (.func 28) #[] #[]) ∧ Below w.heap.size w W)
    (OwnFrom.and (Own.from (holdsRow_own w.heap.size (w.heap.size + 1) 65 9 1 (fun pre : List (Int × Int) => pre.length) (fun pre => (pre.map (txt nm)).map Value.string) (fun _ _ => True)) _) (OwnFrom.and (Own.from (boxed_own w.heap.size 68 (fun _ => .func (.func 28) #[] #[])) _) (ownFrom_below (Nat.le_refl _) (by simp; omega))))
    ⟨⟨_, bO, World.ownsRow_nil _ _ _ _, trivial⟩, bN.alloc _, hB0⟩
    (fun x => { tmps := #[.func (.func 24) #[v0] #[], .func (.func 28) #[] #[], undef, .pointer (some ⟨w.heap.size, 0, none⟩), .slice none 0 0, .pointer (some ⟨w.heap.size + 1, 0, none⟩), .int .i64 x.1, .int .i64 x.2, undef, .func (.func 24) #[v0] #[], .int .i64 x.1, .int .i64 x.2, undef, undef, undef, undef, undef, undef, undef, undef, undef, undef, undef, undef, undef, undef, undef, undef, undef], defers := [] }) ?assign ?body ?done
  case assign =>
    intro l x W K hK
    dsimp only [encs]
    gi_wp2_with fail
    exact hK
  case body =>
    rintro l pre x W ⟨⟨v, hv, hrow, _⟩, hf, hB⟩ hpre
    have hmem : x ∈ xs := by obtain ⟨r, hr⟩ := hpre; rw [← hr]; simp
    have hpl : pre.length + 1 ≤ xs.length := by obtain ⟨r, hr⟩ := hpre; rw [← hr]; simp
    obtain ⟨p1, p2⟩ := hP x hmem
    have hfc := hf.cell
    have z1 := hsz x.1 p1
    have z2 := hsz x.2 p2
    have z3 : ((⟨#[45]⟩ : ByteArray) ++ nm x.2).size ≤ 2000 := by rw [ByteArray.size_append]; show 1 + _ ≤ _; omega
    have z4 : (nm x.1 ++ ((⟨#[45]⟩ : ByteArray) ++ nm x.2)).size ≤ 4000 := by rw [ByteArray.size_append]; omega
    have hc1 := HN.out x.1 W p1 hB
    have HV : Hid (Boxed W (w.heap.size + 1) 65 v ∧ W.ownsRow w.heap.size 9 1 v pre.length ((pre.map (txt nm)).map Value.string) ∧ Boxed W w.heap.size 68 (.func (.func 28) #[] #[]) ∧ Below w.heap.size w W) := ⟨hv, hrow, hf, hB⟩
    clear hv hrow hf hB
    gi_wp2_with fail
    refine ⟨trivial, ?_⟩
    refine (CallsIn.inRound l (callsIn_wide.2 hc1)).mono ?_
    rintro e W1 ⟨rfl, hb1⟩
    clear hc1 hfc
    by_cases hgt : x.1 < x.2
    · have hfc := (boxed_below HV.out.2.2.1 hb1 (Nat.le_refl _)).cell
      have hc2 := HN.out x.2 W1 p2 (HV.out.2.2.2.trans (hb1.mono HV.out.2.2.2.size))
      gi_wp2_with fail
      refine ⟨trivial, ?_⟩
      refine (CallsIn.inRound l (callsIn_wide.2 hc2)).mono ?_
      rintro e W2 ⟨rfl, hb2'⟩
      have hbA : Below W.heap.size W W2 := hb1.trans (hb2'.mono hb1.size)
      clear hc2 hfc hb1 hb2'
      have hv2 := boxed_below HV.out.1 hbA (Nat.le_refl _)
      have hrow2 := own_below HV.out.2.1 hbA (Nat.le_refl _)
      have hf2 := boxed_below HV.out.2.2.1 hbA (Nat.le_refl _)
      have hB2 := HV.out.2.2.2.trans (hbA.mono HV.out.2.2.2.size)
      have hcA := hv2.cell
      gi_wp2_with (gi_at_builtin; refine wpListIn_append_own _ rfl _ _ 65 rfl w.heap.size 9 i0 (.string ⟨#[]⟩) 1 16 Tryf.underlying65 hi hz0 hz1 hz2 rfl (by decide) _ _ _ rfl (hrow2.alloc _) ⟨W2.heap.size, 0, none⟩ 1 1 [.string (nm x.1 ++ (⟨#[45]⟩ ++ nm x.2))] rfl rfl (cell_one_new _ _ _) (by simp [Value.oneCell']) (by unfold maxLen; omega) (by omega) (by have := hB2.size; simp; omega) ?_; intro v' w1 hown' hgrow _; obtain ⟨g', cap', rfl⟩ := ownsRow_succ hown'; obtain ⟨hv1, hv2', hr2, hk2, hb2⟩ := hv2.appended (by decide) hrow2 hB2.size (by omega) hown' hgrow; have hc1 := hv1.cell; have hf1 := hv1.frozen)
      have e1 : ((pre ++ [x]).map (txt nm)).map Value.string = (pre.map (txt nm)).map Value.string ++ [.string (nm x.1 ++ (⟨#[45]⟩ ++ nm x.2))] := by
        rw [List.map_append, List.map_append]
        simp only [List.map_cons, List.map_nil, txt]
        rw [if_pos hgt]
      refine ⟨?_, ⟨?_, ?_⟩, ⟨_, hv2', ?_, trivial⟩, ?_, ?_⟩
      · exact ((keepsOthers_of_below hbA).trans hk2).from _
      · exact (hbA.mono HV.out.2.2.2.size).trans hb2
      · intro i cs fr hi
        exact keep40 hv2 hrow2 hgrow i cs fr ((hbA.block i (Array.getElem?_eq_some_iff.1 hi).1).trans hi)
      · rw [e1]; simpa using hr2
      · exact ((hf2.alloc _).kept hgrow (not_own9 hf2 (by decide) hrow2)).other (by omega) _
      · exact hB2.trans hb2
    · obtain ⟨W2, hW2⟩ : ∃ W2, W2 = W1 := ⟨_, rfl⟩
      have hbA : Below W.heap.size W W2 := by rw [hW2]; exact hb1
      rw [← hW2]
      clear hW2 hb1
      have hv2 := boxed_below HV.out.1 hbA (Nat.le_refl _)
      have hrow2 := own_below HV.out.2.1 hbA (Nat.le_refl _)
      have hf2 := boxed_below HV.out.2.2.1 hbA (Nat.le_refl _)
      have hB2 := HV.out.2.2.2.trans (hbA.mono HV.out.2.2.2.size)
      have hcA := hv2.cell
      gi_wp2_with (gi_at_builtin; refine wpListIn_append_own _ rfl _ _ 65 rfl w.heap.size 9 i0 (.string ⟨#[]⟩) 1 16 Tryf.underlying65 hi hz0 hz1 hz2 rfl (by decide) _ _ _ rfl (hrow2.alloc _) ⟨W2.heap.size, 0, none⟩ 1 1 [.string (nm x.1)] rfl rfl (cell_one_new _ _ _) (by simp [Value.oneCell']) (by unfold maxLen; omega) (by omega) (by have := hB2.size; simp; omega) ?_; intro v' w1 hown' hgrow _; obtain ⟨g', cap', rfl⟩ := ownsRow_succ hown'; obtain ⟨hv1, hv2', hr2, hk2, hb2⟩ := hv2.appended (by decide) hrow2 hB2.size (by omega) hown' hgrow; have hc1 := hv1.cell; have hf1 := hv1.frozen)
      have e1 : ((pre ++ [x]).map (txt nm)).map Value.string = (pre.map (txt nm)).map Value.string ++ [.string (nm x.1)] := by
        rw [List.map_append, List.map_append]
        simp only [List.map_cons, List.map_nil, txt]
        rw [if_neg (by omega)]
      refine ⟨?_, ⟨?_, ?_⟩, ⟨_, hv2', ?_, trivial⟩, ?_, ?_⟩
      · exact ((keepsOthers_of_below hbA).trans hk2).from _
      · exact (hbA.mono HV.out.2.2.2.size).trans hb2
      · intro i cs fr hi
        exact keep40 hv2 hrow2 hgrow i cs fr ((hbA.block i (Array.getElem?_eq_some_iff.1 hi).1).trans hi)
      · rw [e1]; simpa using hr2
      · exact ((hf2.alloc _).kept hgrow (not_own9 hf2 (by decide) hrow2)).other (by omega) _
      · exact hB2.trans hb2
  case done =>
    rintro D W hD ⟨⟨v, hv, hrow, _⟩, hf, hB⟩ hK
    have hc := hv.cell
    gi_wp2_with fail
    refine ⟨by simp, .inl ⟨_, _, rfl, run_takeDeferred hK, ?_⟩⟩
    exact ⟨_, results_tmp rfl _ _ _, v, rfl, ownsRow_putObj hrow _ hK rfl, hB.trans (belowK_b (w := w) (Nat.le_refl _) W D _ _ (by simp at hD; omega) hK rfl rfl)⟩
set_option maxRecDepth 100000 in
set_option maxHeartbeats 4000000 in
theorem runTexts_27_26 (v0 : Value) (xs : List (Int × Int)) (Pn : Int → Prop) (nm : Int → ByteArray) (w : World) (hseq : ∀ W, Below w.heap.size w W → SeqB Fence.wide 3 Tryf.prog 26 #[v0] encs (Kp w.heap.size) xs W)
    (hP : ∀ p ∈ xs, Pn p.1 ∧ Pn p.2) (hlen : xs.length ≤ 1000000) (hsz : ∀ m, Pn m → (nm m).size ≤ 1000) (hname : ∀ (m : Int) (W : World), Pn m → Below w.heap.size w W → Calls Tryf.prog 27 #[.int .i64 m] W fun e W' => e = .returned (.string (nm m)) ∧ Below W.heap.size W W') :
    Calls Tryf.prog 23 #[.func (.func 26) #[v0] #[], .func (.func 27) #[] #[]] w fun e w' => ∃ v, e = .returned v ∧ w'.ownsRow w.heap.size 9 1 v xs.length ((xs.map (txt nm)).map Value.string) ∧ Below w.heap.size w w' := by
  refine (callsIn_wide (n := 4)).1 ?_
  obtain ⟨i0, hi, hz0, hz1, hz2⟩ := info_parts info9
  have HS : Hid (∀ W, Below w.heap.size w W → SeqB Fence.wide 3 Tryf.prog 26 #[v0] encs (Kp w.heap.size) xs W) := hseq
  have HN : Hid (∀ (m : Int) (W : World), Pn m → Below w.heap.size w W → Calls Tryf.prog 27 #[.int .i64 m] W fun e W' => e = .returned (.string (nm m)) ∧ Below W.heap.size W W') := hname
  clear hseq hname
  refine callsIn_of_wp_marks Tryf.func23 rfl trivial ?_ rfl
  simp only [Tryf.ntmps23, List.size_toArray, List.length_cons, List.length_nil, Nat.reduceAdd, Nat.reduceSub, Array.replicate_succ, Array.replicate_zero, List.push_toArray, List.append_toArray, List.nil_append, List.cons_append]
  gi_wp2_with fail
  have hB0 : Below w.heap.size w ((w.alloc (.cells #[.func (.func 27) #[] #[]] 68)).alloc (.cells #[.slice none 0 0] 65)) := ((Below.refl _ w).alloc (Nat.le_refl _) _).alloc (by simp) _
  have bN := Boxed.new w 68 (.func (.func 27) #[] #[])
  have bO := Boxed.new (w.alloc (.cells #[.func (.func 27) #[] #[]] 68)) 65 (.slice none 0 0)
  rw [World.size_alloc] at bO
  refine rangeB (α := Int × Int) rfl (by omega) (gf := 26) (fst := #[v0]) rfl trivial (enters_of Tryf.func26 (by kernel_rfl) rfl) (encs := encs) (Kp := Kp w.heap.size) (xs := xs) (HS.out _ hB0) (fun h k => Kp.trans h k) (fun W l o o' hl ho hc => Kp.put (by simp at hl; omega) ho hc o') (fun _ => rfl)
    (fun pre W => (∃ v, Boxed W (w.heap.size + 1) 65 v ∧ W.ownsRow w.heap.size 9 1 v pre.length ((pre.map (txt nm)).map Value.string) ∧ True) ∧ Boxed W w.heap.size 68 (.func (.func 27) #[] #[]) ∧ Below w.heap.size w W)
    (OwnFrom.and (Own.from (holdsRow_own w.heap.size (w.heap.size + 1) 65 9 1 (fun pre : List (Int × Int) => pre.length) (fun pre => (pre.map (txt nm)).map Value.string) (fun _ _ => True)) _) (OwnFrom.and (Own.from (boxed_own w.heap.size 68 (fun _ => .func (.func 27) #[] #[])) _) (ownFrom_below (Nat.le_refl _) (by simp; omega))))
    ⟨⟨_, bO, World.ownsRow_nil _ _ _ _, trivial⟩, bN.alloc _, hB0⟩
    (fun x => { tmps := #[.func (.func 26) #[v0] #[], .func (.func 27) #[] #[], undef, .pointer (some ⟨w.heap.size, 0, none⟩), .slice none 0 0, .pointer (some ⟨w.heap.size + 1, 0, none⟩), .int .i64 x.1, .int .i64 x.2, undef, .func (.func 26) #[v0] #[], .int .i64 x.1, .int .i64 x.2, undef, undef, undef, undef, undef, undef, undef, undef, undef, undef, undef, undef, undef, undef, undef, undef, undef], defers := [] }) ?assign ?body ?done
  case assign =>
    intro l x W K hK
    dsimp only [encs]
    gi_wp2_with fail
    exact hK
  case body =>
    rintro l pre x W ⟨⟨v, hv, hrow, _⟩, hf, hB⟩ hpre
    have hmem : x ∈ xs := by obtain ⟨r, hr⟩ := hpre; rw [← hr]; simp
    have hpl : pre.length + 1 ≤ xs.length := by obtain ⟨r, hr⟩ := hpre; rw [← hr]; simp
    obtain ⟨p1, p2⟩ := hP x hmem
    have hfc := hf.cell
    have z1 := hsz x.1 p1
    have z2 := hsz x.2 p2
    have z3 : ((⟨#[45]⟩ : ByteArray) ++ nm x.2).size ≤ 2000 := by rw [ByteArray.size_append]; show 1 + _ ≤ _; omega
    have z4 : (nm x.1 ++ ((⟨#[45]⟩ : ByteArray) ++ nm x.2)).size ≤ 4000 := by rw [ByteArray.size_append]; omega
    have hc1 := HN.out x.1 W p1 hB
    have HV : Hid (Boxed W (w.heap.size + 1) 65 v ∧ W.ownsRow w.heap.size 9 1 v pre.length ((pre.map (txt nm)).map Value.string) ∧ Boxed W w.heap.size 68 (.func (.func 27) #[] #[]) ∧ Below w.heap.size w W) := ⟨hv, hrow, hf, hB⟩
    clear hv hrow hf hB
    gi_wp2_with fail
    refine ⟨trivial, ?_⟩
    refine (CallsIn.inRound l (callsIn_wide.2 hc1)).mono ?_
    rintro e W1 ⟨rfl, hb1⟩
    clear hc1 hfc
    by_cases hgt : x.1 < x.2
    · have hfc := (boxed_below HV.out.2.2.1 hb1 (Nat.le_refl _)).cell
      have hc2 := HN.out x.2 W1 p2 (HV.out.2.2.2.trans (hb1.mono HV.out.2.2.2.size))
      gi_wp2_with fail
      refine ⟨trivial, ?_⟩
      refine (CallsIn.inRound l (callsIn_wide.2 hc2)).mono ?_
      rintro e W2 ⟨rfl, hb2'⟩
      have hbA : Below W.heap.size W W2 := hb1.trans (hb2'.mono hb1.size)
      clear hc2 hfc hb1 hb2'
      have hv2 := boxed_below HV.out.1 hbA (Nat.le_refl _)
      have hrow2 := own_below HV.out.2.1 hbA (Nat.le_refl _)
      have hf2 := boxed_below HV.out.2.2.1 hbA (Nat.le_refl _)
      have hB2 := HV.out.2.2.2.trans (hbA.mono HV.out.2.2.2.size)
      have hcA := hv2.cell
      gi_wp2_with (gi_at_builtin; refine wpListIn_append_own _ rfl _ _ 65 rfl w.heap.size 9 i0 (.string ⟨#[]⟩) 1 16 Tryf.underlying65 hi hz0 hz1 hz2 rfl (by decide) _ _ _ rfl (hrow2.alloc _) ⟨W2.heap.size, 0, none⟩ 1 1 [.string (nm x.1 ++ (⟨#[45]⟩ ++ nm x.2))] rfl rfl (cell_one_new _ _ _) (by simp [Value.oneCell']) (by unfold maxLen; omega) (by omega) (by have := hB2.size; simp; omega) ?_; intro v' w1 hown' hgrow _; obtain ⟨g', cap', rfl⟩ := ownsRow_succ hown'; obtain ⟨hv1, hv2', hr2, hk2, hb2⟩ := hv2.appended (by decide) hrow2 hB2.size (by omega) hown' hgrow; have hc1 := hv1.cell; have hf1 := hv1.frozen)
      have e1 : ((pre ++ [x]).map (txt nm)).map Value.string = (pre.map (txt nm)).map Value.string ++ [.string (nm x.1 ++ (⟨#[45]⟩ ++ nm x.2))] := by
        rw [List.map_append, List.map_append]
        simp only [List.map_cons, List.map_nil, txt]
        rw [if_pos hgt]
      refine ⟨?_, ⟨?_, ?_⟩, ⟨_, hv2', ?_, trivial⟩, ?_, ?_⟩
      · exact ((keepsOthers_of_below hbA).trans hk2).from _
      · exact (hbA.mono HV.out.2.2.2.size).trans hb2
      · intro i cs fr hi
        exact keep40 hv2 hrow2 hgrow i cs fr ((hbA.block i (Array.getElem?_eq_some_iff.1 hi).1).trans hi)
      · rw [e1]; simpa using hr2
      · exact ((hf2.alloc _).kept hgrow (not_own9 hf2 (by decide) hrow2)).other (by omega) _
      · exact hB2.trans hb2
    · obtain ⟨W2, hW2⟩ : ∃ W2, W2 = W1 := ⟨_, rfl⟩
      have hbA : Below W.heap.size W W2 := by rw [hW2]; exact hb1
      rw [← hW2]
      clear hW2 hb1
      have hv2 := boxed_below HV.out.1 hbA (Nat.le_refl _)
      have hrow2 := own_below HV.out.2.1 hbA (Nat.le_refl _)
      have hf2 := boxed_below HV.out.2.2.1 hbA (Nat.le_refl _)
      have hB2 := HV.out.2.2.2.trans (hbA.mono HV.out.2.2.2.size)
      have hcA := hv2.cell
      gi_wp2_with (gi_at_builtin; refine wpListIn_append_own _ rfl _ _ 65 rfl w.heap.size 9 i0 (.string ⟨#[]⟩) 1 16 Tryf.underlying65 hi hz0 hz1 hz2 rfl (by decide) _ _ _ rfl (hrow2.alloc _) ⟨W2.heap.size, 0, none⟩ 1 1 [.string (nm x.1)] rfl rfl (cell_one_new _ _ _) (by simp [Value.oneCell']) (by unfold maxLen; omega) (by omega) (by have := hB2.size; simp; omega) ?_; intro v' w1 hown' hgrow _; obtain ⟨g', cap', rfl⟩ := ownsRow_succ hown'; obtain ⟨hv1, hv2', hr2, hk2, hb2⟩ := hv2.appended (by decide) hrow2 hB2.size (by omega) hown' hgrow; have hc1 := hv1.cell; have hf1 := hv1.frozen)
      have e1 : ((pre ++ [x]).map (txt nm)).map Value.string = (pre.map (txt nm)).map Value.string ++ [.string (nm x.1)] := by
        rw [List.map_append, List.map_append]
        simp only [List.map_cons, List.map_nil, txt]
        rw [if_neg (by omega)]
      refine ⟨?_, ⟨?_, ?_⟩, ⟨_, hv2', ?_, trivial⟩, ?_, ?_⟩
      · exact ((keepsOthers_of_below hbA).trans hk2).from _
      · exact (hbA.mono HV.out.2.2.2.size).trans hb2
      · intro i cs fr hi
        exact keep40 hv2 hrow2 hgrow i cs fr ((hbA.block i (Array.getElem?_eq_some_iff.1 hi).1).trans hi)
      · rw [e1]; simpa using hr2
      · exact ((hf2.alloc _).kept hgrow (not_own9 hf2 (by decide) hrow2)).other (by omega) _
      · exact hB2.trans hb2
  case done =>
    rintro D W hD ⟨⟨v, hv, hrow, _⟩, hf, hB⟩ hK
    have hc := hv.cell
    gi_wp2_with fail
    refine ⟨by simp, .inl ⟨_, _, rfl, run_takeDeferred hK, ?_⟩⟩
    exact ⟨_, results_tmp rfl _ _ _, v, rfl, ownsRow_putObj hrow _ hK rfl, hB.trans (belowK_b (w := w) (Nat.le_refl _) W D _ _ (by simp at hD; omega) hK rfl rfl)⟩
end Go.Proofs.Qxb6615962aFmt
