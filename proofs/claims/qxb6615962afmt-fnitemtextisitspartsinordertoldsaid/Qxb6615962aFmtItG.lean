import Derived.Test.Qxb6615962aFmtShelf
import Derived.Test.Qxb6615962aFmtItF
namespace Go.Proofs.Qxb6615962aFmt
open Go.RowKit
/-- every block but b and the rows of bytes is as it was -/
def KT (b : Nat) (w w' : World) : Prop := ∀ (k : Nat) cs t fr, t ≠ 5 → k ≠ b → w.heap[k]? = some (.cells cs t fr) → w'.heap[k]? = some (.cells cs t fr)
theorem KT.refl (b : Nat) (w : World) : KT b w w := fun _ _ _ _ _ _ h => h
theorem KT.trans {b : Nat} {w w' w'' : World} (h : KT b w w') (k : KT b w' w'') : KT b w w'' := fun i cs t fr h1 h2 h3 => k i cs t fr h1 h2 (h i cs t fr h1 h2 h3)
theorem KT.set {b j : Nat} {w w' : World} (h : KT b w w') (v : Value) : KT b w (w'.setCell ⟨b, j, none⟩ v) := fun i cs t fr h1 h2 h3 => by
  rw [Below.heap_setCell _ _ _ _ h2]
  exact h i cs t fr h1 h2 h3
theorem KT.grown {b B n : Nat} {w w' w'' : World} {v : Value} {xs : List Value} (h : KT b w w') (hown : w'.ownsRow B 5 1 v n xs) (hg : w'.grownBy w'' v.ownBlock) : KT b w w'' := fun i cs t fr h1 h2 h3 => by
  have h4 := h i cs t fr h1 h2 h3
  rw [hg.block i (Array.getElem?_eq_some_iff.1 h4).1 ?_]
  · exact h4
  · rcases hown.2 with ⟨rfl, _⟩ | ⟨g, cap, cur, rfl, _, hgb, _⟩
    · simp [Value.ownBlock]
    · intro e
      have : i = g := by simpa [Value.ownBlock] using e
      subst this
      rw [h4] at hgb
      cases hgb
      exact h1 rfl
theorem KT.alloc {b : Nat} {w w' : World} (h : KT b w w') (o : Obj) : KT b w (w'.alloc o) := fun i cs t fr h1 h2 h3 => by
  have h4 := h i cs t fr h1 h2 h3
  rw [Below.heap_alloc w' o i (Array.getElem?_eq_some_iff.1 h4).1]
  exact h4
set_option maxHeartbeats 1000000 in
set_option maxRecDepth 100000 in
theorem copyCheck_used (b : Nat) (w : World) (h0 : w.cell? ⟨b, 0, none⟩ = some (.pointer (some ⟨b, 0, none⟩))) :
    Calls Tryf.prog 34 #[.pointer (some ⟨b, 0, none⟩)] w fun e w' => e = .returned (.tuple #[]) ∧ w' = w := by
  obtain ⟨j, hj, _⟩ := Option.map_eq_some_iff.1 Tryf.Builder_Extra_169.sizeBuilder
  have hne := Lib.run_neq_ptr_same (P := Tryf.prog) w ⟨b, 0, none⟩ Tryf.underlying56 hj
  go_enter Tryf.func34, Tryf.ntmps34
  go_wp2
  go_end0
  exact ⟨rfl, rfl⟩
set_option maxHeartbeats 1000000 in
set_option maxRecDepth 100000 in
theorem copyCheck_fresh (b : Nat) (w : World) (h0 : w.cell? ⟨b, 0, none⟩ = some (.pointer none)) (hsh : w.shape? b = some (58, 2)) (hfz : w.frozen? ⟨b, 0, none⟩ = false) :
    Calls Tryf.prog 34 #[.pointer (some ⟨b, 0, none⟩)] w fun e w' => e = .returned (.tuple #[]) ∧ w' = w.setCell ⟨b, 0, none⟩ (.pointer (some ⟨b, 0, none⟩)) := by
  obtain ⟨j, hj, hjs⟩ := Option.map_eq_some_iff.1 Tryf.Builder_Extra_169.sizeBuilder
  have X := Tryf.Builder_Extra_169
  go_enter Tryf.func34, Tryf.ntmps34
  go_wp2
  rw [Lib.run_to_unsafe w ⟨b, 0, none⟩ Tryf.underlying56 Tryf.underlying84 hj (by rw [hjs]; decide) hsh (Nat.zero_lt_succ 1)]
  simp only [Result.andThen]
  rw [Oper.upon_value]
  go_wp2
  rw [run_callFunc_extern Tryf.func45 (by kernel_rfl) (by kernel_rfl) (by kernel_rfl) (e := Extern.AbiNoEscape.same) (by kernel_rfl)]
  rw [Lib.run_noEscape]
  simp only [Result.andThen]
  rw [Oper.upon_value]
  go_wp2
  rw [Lib.run_from_unsafe w ⟨b, 0, none⟩ Tryf.underlying84 Tryf.underlying56 hj hsh X.liesBuilder]
  simp only [Result.andThen]
  rw [Oper.upon_value]
  go_wp2
  go_end0
  exact ⟨rfl, rfl⟩
theorem copyCheck_any (B b : Nat) (bs : List Value) (w : World) (h : Lib.IsBuilder 58 5 B b bs w) :
    Calls Tryf.prog 34 #[.pointer (some ⟨b, 0, none⟩)] w fun e w' => e = .returned (.tuple #[]) ∧ Lib.BuilderAt 58 5 B b (.pointer (some ⟨b, 0, none⟩)) bs w' ∧ Below B w w' ∧ KT b w w' := by
  rcases h with h | h
  · refine (copyCheck_fresh b w h.cell0 h.shape h.frozen0).mono ?_
    rintro e w' ⟨rfl, rfl⟩
    exact ⟨rfl, h.used _, (Below.refl B w).setCell (p := ⟨b, 0, none⟩) h.1 _, (KT.refl b w).set _⟩
  · refine (copyCheck_used b w h.cell0).mono ?_
    rintro e w' ⟨rfl, rfl⟩
    exact ⟨rfl, h, Below.refl B _, KT.refl b _⟩
set_option maxHeartbeats 1000000 in
set_option maxRecDepth 100000 in
theorem writeString_any (B b : Nat) (bs : List Value) (s : ByteArray) (w : World) (h : Lib.IsBuilder 58 5 B b bs w) (hlen : bs.length + s.size ≤ 140737488355328) (hBw : B ≤ w.heap.size) :
    Calls Tryf.prog 20 #[.pointer (some ⟨b, 0, none⟩), .string s] w fun e w' => e = .returned (.tuple #[.int .i64 s.size, .nilIface]) ∧ Lib.BuilderAt 58 5 B b (.pointer (some ⟨b, 0, none⟩)) (bs ++ Lib.strCells s) w' ∧ Below B w w' ∧ KT b w w' := by
  obtain ⟨i0, hi, hz0, hz1, hz2⟩ := info_parts info5
  go_enter Tryf.func20, Tryf.ntmps20
  go_wp2_with fail
  refine (copyCheck_any B b bs _ h).mono ?_
  rintro e w1 ⟨rfl, h1, hb1, hk1⟩
  obtain ⟨hB, v, hbk, hown, hne⟩ := h1
  have c0 : w1.cell? ⟨b, 0, none⟩ = some (.pointer (some ⟨b, 0, none⟩)) := by rw [Lib.cell_of_heap hbk]; rfl
  have c1 : w1.cell? ⟨b, 1, none⟩ = some v := by rw [Lib.cell_of_heap hbk]; rfl
  go_wp2_with (at_builtin; refine Lib.wpList_append_own_string _ rfl _ _ 36 9 rfl B 5 i0 Tryf.underlying36 Tryf.underlying9 hi hz0 hz1 hz2 _ _ _ rfl hown s rfl (by unfold maxLen; omega) (by omega) (by have := hb1.size; omega) ?_)
  intro v' w2 hown' hgrow _
  have hlt : b < w1.heap.size := (Array.getElem?_eq_some_iff.1 hbk).1
  have hb2 : w2.heap[b]? = some (.cells #[.pointer (some ⟨b, 0, none⟩), v] 58 (0, 0)) := by
    rw [hgrow.block b hlt (fun e => hne e.symm)]
    exact hbk
  have d0 : w2.cell? ⟨b, 0, none⟩ = some (.pointer (some ⟨b, 0, none⟩)) := by rw [Lib.cell_of_heap hb2]; rfl
  have d1 : w2.cell? ⟨b, 1, none⟩ = some v := by rw [Lib.cell_of_heap hb2]; rfl
  have f1 : w2.frozen? ⟨b, 1, none⟩ = false := Lib.frozen_of_heap hb2 1
  obtain ⟨ao, n', cap, rfl⟩ : ∃ ao n' cap, v' = .slice ao n' cap := by
    rcases hown'.2 with ⟨hv, _⟩ | ⟨g, cap, cur, hv, _⟩
    · exact ⟨_, _, _, hv⟩
    · exact ⟨_, _, _, hv⟩
  go_wp2
  go_ret2
  refine ⟨rfl, ?_, ?_, ?_⟩
  · exact Lib.BuilderAt.put (T := 58) (e := 5) hB hb2 (bs' := bs ++ Lib.strCells s) (by simpa [Lib.strCells_length] using hown') (by decide)
  · exact (hb1.grown hgrow (by have := hb1.size; omega) (fun k hk => (hown.lt k hk).1)).setCell (p := ⟨b, 1, none⟩) hB _
  · exact (hk1.grown hown hgrow).set _
set_option maxHeartbeats 1000000 in
set_option maxRecDepth 100000 in
theorem writeByte_any (B b : Nat) (bs : List Value) (c : UInt8) (w : World) (h : Lib.IsBuilder 58 5 B b bs w) (hlen : bs.length + 1 ≤ 140737488355328) (hBw : B ≤ w.heap.size) :
    Calls Tryf.prog 30 #[.pointer (some ⟨b, 0, none⟩), .int .u8 (c.toNat : Int)] w fun e w' => e = .returned .nilIface ∧ Lib.BuilderAt 58 5 B b (.pointer (some ⟨b, 0, none⟩)) (bs ++ [.int .u8 (c.toNat : Int)]) w' ∧ Below B w w' ∧ KT b w w' := by
  obtain ⟨i0, hi, hz0, hz1, hz2⟩ := info_parts info5
  go_enter Tryf.func30, Tryf.ntmps30
  go_wp2_with fail
  refine (copyCheck_any B b bs _ h).mono ?_
  rintro e w1 ⟨rfl, h1, hb1, hk1⟩
  obtain ⟨hB, v, hbk, hown, hne⟩ := h1
  have c0 : w1.cell? ⟨b, 0, none⟩ = some (.pointer (some ⟨b, 0, none⟩)) := by rw [Lib.cell_of_heap hbk]; rfl
  have c1 : w1.cell? ⟨b, 1, none⟩ = some v := by rw [Lib.cell_of_heap hbk]; rfl
  have hlt : b < w1.heap.size := (Array.getElem?_eq_some_iff.1 hbk).1
  go_wp2_with (at_builtin; refine wpList_append_own _ rfl _ _ 36 rfl B 5 i0 (.int .u8 0) 1 1 Tryf.underlying36 hi hz0 hz1 hz2 rfl (by decide) _ _ _ rfl (hown.alloc _) ⟨w1.heap.size, 0, none⟩ 1 1 [.int .u8 (c.toNat : Int)] rfl rfl ?c1 ?c2 ?c3 ?c4 ?c5 ?_)
  case c1 =>
    intro j u hj
    match j, hj with
    | 0, hj =>
      have : Value.int .u8 (c.toNat : Int) = u := by simpa using hj
      rw [← this]
      simp [Addr.add]
  case c2 => intro u hu; simp at hu; subst hu; rfl
  case c3 => unfold maxLen; omega
  case c4 => omega
  case c5 => have := hb1.size; simp; omega
  intro v' w2 hown' hgrow _
  have hb2 : w2.heap[b]? = some (.cells #[.pointer (some ⟨b, 0, none⟩), v] 58 (0, 0)) := by
    rw [hgrow.block b (by simp; omega) (fun e => hne e.symm), Below.heap_alloc w1 _ b hlt]
    exact hbk
  have d0 : w2.cell? ⟨b, 0, none⟩ = some (.pointer (some ⟨b, 0, none⟩)) := by rw [Lib.cell_of_heap hb2]; rfl
  have d1 : w2.cell? ⟨b, 1, none⟩ = some v := by rw [Lib.cell_of_heap hb2]; rfl
  have f1 : w2.frozen? ⟨b, 1, none⟩ = false := Lib.frozen_of_heap hb2 1
  obtain ⟨ao, n', cap, rfl⟩ : ∃ ao n' cap, v' = .slice ao n' cap := by
    rcases hown'.2 with ⟨hv, _⟩ | ⟨g, cap, cur, hv, _⟩
    · exact ⟨_, _, _, hv⟩
    · exact ⟨_, _, _, hv⟩
  go_wp2
  go_ret
  refine ⟨rfl, ?_, ?_, ?_⟩
  · exact Lib.BuilderAt.put (T := 58) (e := 5) hB hb2 (bs' := bs ++ [.int .u8 (c.toNat : Int)]) (by simpa using hown') (by decide)
  · have hba : Below B w (w1.alloc (.cells #[.int .u8 (c.toNat : Int)] 5)) := hb1.alloc (by have := hb1.size; omega) _
    exact (hba.grown hgrow (by have := hba.size; omega) (fun k hk => (hown.lt k hk).1)).setCell (p := ⟨b, 1, none⟩) hB _
  · exact ((hk1.alloc _).grown (hown.alloc _) hgrow).set _
/-- the elements, joined -/
def jn (xs : List ByteArray) : List UInt8 := Lib.join (xs.map (·.data.toList)) [44, 32]
theorem join_any (n₀ : Nat) (v : Value) (xs : List ByteArray) (w : World) (hrow : w.ownsRow n₀ 9 1 v xs.length (xs.map Value.string)) (hxs : xs.length ≤ 140737488355328) (hlen : (jn xs).length ≤ 140737488355328) :
    Calls Tryf.prog 36 #[v, .string ⟨#[44, 32]⟩] w fun e w' => e = .returned (.string ⟨(jn xs).toArray⟩) ∧ Below w.heap.size w w' := by
  rcases hrow.2 with ⟨rfl, hx⟩ | ⟨g, cap, cur, rfl, _, hg, h1, h2, h3, h4⟩
  · have : xs = [] := by simpa using hx
    subst this
    refine (Tryf.strings_Join_none none 0 ⟨#[44, 32]⟩ w).mono ?_
    rintro e w' ⟨rfl, rfl⟩
    exact ⟨rfl, Below.refl _ _⟩
  · refine (Tryf.strings_Join g 0 cap xs ⟨#[44, 32]⟩ w ?_ (Array.getElem?_eq_some_iff.1 hg).1 hxs h1 hlen).mono ?_
    · intro j x hj
      have h5 : cur.toList[j]? = some (.string x) := by
        have h6 : (cur.toList.take (xs.length * 1))[j]? = some (.string x) := by rw [h4]; simp [hj]
        rw [List.getElem?_take] at h6
        split at h6
        · exact h6
        · cases h6
      rw [Nat.zero_add]
      have h7 : cur[j]? = some (.string x) := by simpa using h5
      simp [World.cell?, hg, h7]
    · rintro e w' ⟨rfl, hb⟩
      exact ⟨rfl, hb⟩
theorem own_kt {b n₀ n : Nat} {w w' : World} {v : Value} {xs : List Value} (h : w.ownsRow n₀ 9 1 v n xs) (hk : KT b w w') (hne : ∀ g, v.ownBlock = some g → g ≠ b) : w'.ownsRow n₀ 9 1 v n xs := by
  obtain ⟨h1, h2⟩ := h
  refine ⟨h1, ?_⟩
  rcases h2 with h2 | ⟨g, cap, cur, rfl, hB, hg, h3⟩
  · exact .inl h2
  · exact .inr ⟨g, cap, cur, rfl, hB, hk g _ _ _ (by decide) (hne g rfl) hg, h3⟩
/-- a set's text -/
def segL (word : List UInt8) (xs : List ByteArray) : List UInt8 := [32] ++ (if word = [] then [] else word ++ [32]) ++ ([123, 32] ++ jn xs ++ [32, 125])
theorem cat3 (l : List UInt8) : (⟨#[123, 32]⟩ ++ (⟨l.toArray⟩ : ByteArray) ++ ⟨#[32, 125]⟩ : ByteArray) = ⟨([123, 32] ++ l ++ [32, 125]).toArray⟩ := by
  apply ByteArray.ext
  apply Array.ext'
  simp
set_option maxHeartbeats 2000000 in
set_option maxRecDepth 100000 in
theorem writeSet_word (B b n₀ : Nat) (l : List UInt8) (word : ByteArray) (v : Value) (xs : List ByteArray) (w : World) (h : Lib.IsBuilder 58 5 B b (Lib.byteCells l) w) (hrow : w.ownsRow n₀ 9 1 v xs.length (xs.map Value.string)) (hBw : B ≤ w.heap.size)
    (hw0 : word.toList.isEmpty = false) (hw2 : word.data.toList ≠ []) (hw1 : word.size ≤ 100) (hl : l.length ≤ 1000000000000) (hj : (jn xs).length ≤ 10000000000) (hx : xs.length ≤ 10000000000) :
    Calls Tryf.prog 22 #[.pointer (some ⟨b, 0, none⟩), .string word, v] w fun e w' => e = .returned (.tuple #[]) ∧ Lib.IsBuilder 58 5 B b (Lib.byteCells (l ++ segL word.data.toList xs)) w' ∧ Below B w w' := by
  have hb58 : ∃ p u, w.heap[b]? = some (.cells #[p, u] 58 (0, 0)) := by
    rcases h with h | h
    · obtain ⟨_, u, hu, _⟩ := h; exact ⟨_, _, hu⟩
    · obtain ⟨_, u, hu, _⟩ := h; exact ⟨_, _, hu⟩
  have hne : ∀ g, v.ownBlock = some g → g ≠ b := by
    intro g hg e
    subst e
    obtain ⟨p, u, hu⟩ := hb58
    rcases hrow.2 with ⟨rfl, _⟩ | ⟨g', cap, cur, rfl, _, hg', _⟩
    · cases hg
    · have : g' = g := by simpa [Value.ownBlock] using hg
      subst this
      rw [hu] at hg'
      cases hg'
  have c1 := writeByte_any B b (Lib.byteCells l) 32 w h (by rw [Lib.byteCells_length]; omega) hBw
  have c1' : Calls Tryf.prog 30 #[.pointer (some ⟨b, 0, none⟩), .int .u8 32] w fun e w' => e = .returned .nilIface ∧ Lib.BuilderAt 58 5 B b (.pointer (some ⟨b, 0, none⟩)) (Lib.byteCells l ++ [.int .u8 32]) w' ∧ Below B w w' ∧ KT b w w' := c1
  have z1 : (word ++ (⟨#[32]⟩ : ByteArray)).size ≤ 200 := by rw [ByteArray.size_append]; show _ + 1 ≤ _; omega
  have z2 : ((⟨#[123, 32]⟩ : ByteArray) ++ ⟨(jn xs).toArray⟩).size ≤ 20000000000 := by rw [ByteArray.size_append]; show 2 + (jn xs).toArray.size ≤ _; simp; omega
  have z3 : ((⟨#[123, 32]⟩ : ByteArray) ++ ⟨(jn xs).toArray⟩ ++ ⟨#[32, 125]⟩).size ≤ 30000000000 := by rw [ByteArray.size_append]; show _ + 2 ≤ _; omega
  clear c1
  go_enter Tryf.func22, Tryf.ntmps22
  go_wp2_with fail
  refine c1'.mono ?_
  rintro e w1 ⟨rfl, h1, hb1, hk1⟩
  have c2 := writeString_any B b _ (word ++ ⟨#[32]⟩) w1 (.inr h1) (by rw [List.length_append, Lib.byteCells_length]; show _ + 1 + _ ≤ _; omega) (Nat.le_trans hBw hb1.size)
  go_wp2_with fail
  refine c2.mono ?_
  rintro e w2 ⟨rfl, h2, hb2, hk2⟩
  have hrow2 := own_kt (own_kt hrow hk1 hne) hk2 hne
  have c3 := join_any n₀ v xs w2 hrow2 (by omega) (by omega)
  have hz2 : B ≤ w2.heap.size := Nat.le_trans (Nat.le_trans hBw hb1.size) hb2.size
  go_wp2_with fail
  refine c3.mono ?_
  rintro e w3 ⟨rfl, hb3⟩
  have h3 : Lib.BuilderAt 58 5 B b (.pointer (some ⟨b, 0, none⟩)) ((Lib.byteCells l ++ [.int .u8 32]) ++ Lib.strCells (word ++ ⟨#[32]⟩)) w3 := by
    obtain ⟨hB, u, hu, hown, hnb⟩ := h2
    have hlt : b < w2.heap.size := (Array.getElem?_eq_some_iff.1 hu).1
    refine ⟨hB, u, (hb3.block b hlt).trans hu, ?_, hnb⟩
    obtain ⟨e1, e2⟩ := hown
    refine ⟨e1, ?_⟩
    rcases e2 with e2 | ⟨g, cap, cur, rfl, hg1, hg2, hg3⟩
    · exact .inl e2
    · exact .inr ⟨g, cap, cur, rfl, hg1, (hb3.block g (Array.getElem?_eq_some_iff.1 hg2).1).trans hg2, hg3⟩
  have c4 := writeString_any B b _ (⟨#[123, 32]⟩ ++ ⟨(jn xs).toArray⟩ ++ ⟨#[32, 125]⟩) w3 (.inr h3) (by rw [List.length_append, List.length_append, Lib.byteCells_length, Lib.strCells_length]; show _ + 1 + _ + _ ≤ _; omega) (Nat.le_trans hz2 hb3.size)
  go_wp2_with fail
  refine c4.mono ?_
  rintro e w4 ⟨rfl, h4, hb4, _⟩
  go_wp2_with fail
  go_end0
  refine ⟨rfl, .inr ?_, ((hb1.trans hb2).trans (hb3.mono hz2)).trans hb4⟩
  have e : Lib.byteCells (l ++ segL word.data.toList xs) = ((Lib.byteCells l ++ [.int .u8 32]) ++ Lib.strCells (word ++ ⟨#[32]⟩)) ++ Lib.strCells (⟨#[123, 32]⟩ ++ ⟨(jn xs).toArray⟩ ++ ⟨#[32, 125]⟩) := by
    rw [cat3, Lib.strCells_eq, Lib.strCells_eq]
    unfold segL
    rw [if_neg hw2]
    simp [Lib.byteCells]
  rw [e]
  exact h4
set_option maxHeartbeats 2000000 in
set_option maxRecDepth 100000 in
theorem writeSet_none (B b n₀ : Nat) (l : List UInt8) (v : Value) (xs : List ByteArray) (w : World) (h : Lib.IsBuilder 58 5 B b (Lib.byteCells l) w) (hrow : w.ownsRow n₀ 9 1 v xs.length (xs.map Value.string)) (hBw : B ≤ w.heap.size)
    (hl : l.length ≤ 1000000000000) (hj : (jn xs).length ≤ 10000000000) (hx : xs.length ≤ 10000000000) :
    Calls Tryf.prog 22 #[.pointer (some ⟨b, 0, none⟩), .string ⟨#[]⟩, v] w fun e w' => e = .returned (.tuple #[]) ∧ Lib.IsBuilder 58 5 B b (Lib.byteCells (l ++ segL [] xs)) w' ∧ Below B w w' := by
  have hb58 : ∃ p u, w.heap[b]? = some (.cells #[p, u] 58 (0, 0)) := by
    rcases h with h | h
    · obtain ⟨_, u, hu, _⟩ := h; exact ⟨_, _, hu⟩
    · obtain ⟨_, u, hu, _⟩ := h; exact ⟨_, _, hu⟩
  have hne : ∀ g, v.ownBlock = some g → g ≠ b := by
    intro g hg e
    subst e
    obtain ⟨p, u, hu⟩ := hb58
    rcases hrow.2 with ⟨rfl, _⟩ | ⟨g', cap, cur, rfl, _, hg', _⟩
    · cases hg
    · have : g' = g := by simpa [Value.ownBlock] using hg
      subst this
      rw [hu] at hg'
      cases hg'
  have c1 := writeByte_any B b (Lib.byteCells l) 32 w h (by rw [Lib.byteCells_length]; omega) hBw
  have c1' : Calls Tryf.prog 30 #[.pointer (some ⟨b, 0, none⟩), .int .u8 32] w fun e w' => e = .returned .nilIface ∧ Lib.BuilderAt 58 5 B b (.pointer (some ⟨b, 0, none⟩)) (Lib.byteCells l ++ [.int .u8 32]) w' ∧ Below B w w' ∧ KT b w w' := c1
  have z2 : ((⟨#[123, 32]⟩ : ByteArray) ++ ⟨(jn xs).toArray⟩).size ≤ 20000000000 := by rw [ByteArray.size_append]; show 2 + (jn xs).toArray.size ≤ _; simp; omega
  have z3 : ((⟨#[123, 32]⟩ : ByteArray) ++ ⟨(jn xs).toArray⟩ ++ ⟨#[32, 125]⟩).size ≤ 30000000000 := by rw [ByteArray.size_append]; show _ + 2 ≤ _; omega
  clear c1
  go_enter Tryf.func22, Tryf.ntmps22
  go_wp2_with fail
  refine c1'.mono ?_
  rintro e w1 ⟨rfl, h1, hb1, hk1⟩
  have hrow2 := own_kt hrow hk1 hne
  have c3 := join_any n₀ v xs w1 hrow2 (by omega) (by omega)
  have hz2 : B ≤ w1.heap.size := Nat.le_trans hBw hb1.size
  go_wp2_with fail
  refine c3.mono ?_
  rintro e w3 ⟨rfl, hb3⟩
  have h3 : Lib.BuilderAt 58 5 B b (.pointer (some ⟨b, 0, none⟩)) (Lib.byteCells l ++ [.int .u8 32]) w3 := by
    obtain ⟨hB, u, hu, hown, hnb⟩ := h1
    have hlt : b < w1.heap.size := (Array.getElem?_eq_some_iff.1 hu).1
    refine ⟨hB, u, (hb3.block b hlt).trans hu, ?_, hnb⟩
    obtain ⟨e1, e2⟩ := hown
    refine ⟨e1, ?_⟩
    rcases e2 with e2 | ⟨g, cap, cur, rfl, hg1, hg2, hg3⟩
    · exact .inl e2
    · exact .inr ⟨g, cap, cur, rfl, hg1, (hb3.block g (Array.getElem?_eq_some_iff.1 hg2).1).trans hg2, hg3⟩
  have c4 := writeString_any B b _ (⟨#[123, 32]⟩ ++ ⟨(jn xs).toArray⟩ ++ ⟨#[32, 125]⟩) w3 (.inr h3) (by rw [List.length_append, Lib.byteCells_length]; show _ + 1 + _ ≤ _; omega) (Nat.le_trans hz2 hb3.size)
  go_wp2_with fail
  refine c4.mono ?_
  rintro e w4 ⟨rfl, h4, hb4, _⟩
  go_wp2_with fail
  go_end0
  refine ⟨rfl, .inr ?_, (hb1.trans (hb3.mono hz2)).trans hb4⟩
  have e : Lib.byteCells (l ++ segL [] xs) = (Lib.byteCells l ++ [.int .u8 32]) ++ Lib.strCells (⟨#[123, 32]⟩ ++ ⟨(jn xs).toArray⟩ ++ ⟨#[32, 125]⟩) := by
    rw [cat3, Lib.strCells_eq]
    unfold segL
    rw [if_pos rfl]
    simp [Lib.byteCells]
  rw [e]
  exact h4
end Go.Proofs.Qxb6615962aFmt
