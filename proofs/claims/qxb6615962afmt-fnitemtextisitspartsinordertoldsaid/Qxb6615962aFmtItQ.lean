import Derived.Test.Qxb6615962aFmtItP
import Derived.ArgAppend
import Derived.Lib.SlBytesConst
set_option linter.unusedSimpArgs false
set_option linter.defProp false
namespace Go.Proofs.Qxb6615962aFmt
open Go.RowKit Go.Stop
theorem ld23 (b : Nat) (mo : Nat → Nat) (W : World) (h : ∀ j, j < 12 → W.cell? ⟨b, j, none⟩ = some (.int .u64 (mo j : Int))) : (loadVar 23 ⟨b, 0, none⟩).run Tryf.prog W = .ok (.agg (mv mo)) W := by
  have := run_loadVar_mid (P := Tryf.prog) W b 0 23 (mv mo).toList _ ?_ Tryf.underlying23 rfl (info23 _ (by simp [mv]))
  · simpa using this
  · intro j v hv
    have hv' : (mv mo)[j]? = some v := by simpa using hv
    have hj : j < 12 := by
      by_cases hh : j < 12
      · exact hh
      · rw [Array.getElem?_eq_none (by rw [mv_size]; omega)] at hv'
        cases hv'
    rw [mv_get mo j hj] at hv'
    rw [Nat.zero_add, h j hj]
    exact hv'
theorem made30 (n : Nat) (hn : n ≤ 32768) (w : World) : (Instr.makeSlice 24 (.int .i64 (n : Int)) (.int .i64 (n : Int))).run Tryf.prog w = .ok (.slice (some ⟨w.heap.size, 0, none⟩) n n) (w.alloc (.cells (madeCells #[.int .i64 0, .int .i64 0] (n * 2)) 30)) := by
  obtain ⟨i0, hi, hz0, hz1, hz2⟩ := info_parts info30
  have h := run_makeSlice (P := Tryf.prog) (w := w) 24 30 i0 (.agg #[.int .i64 0, .int .i64 0]) Tryf.underlying24 hi hz0 .i64 .i64 n n (by omega) (by omega) (by rw [hz1]; simp; omega) (by rw [hz2]; omega) (by omega)
  rw [h, hz1]
  simp [Value.cells]
theorem item_aln (mo : Nat → Nat) (hmo : ∀ j, mo j < 18446744073709551616) (s : ByteArray) (hs : s.size ≤ 1000000) (wd : Nat) (ts : List (Int × Int)) (hts : ts.length ≤ 1000000) (k : Nat) (hk : k < 5) :
    ∃ r, (⟨(itemL mo s wd ts (2 ^ k)).toArray⟩ : ByteArray) = aln r ∧ sgk mo s wd ts k = 32 :: r ∧ r.length ≤ 4000000001 := by
  have key : ∃ r, sgk mo s wd ts k = 32 :: r ∧ r.length ≤ 4000000001 := by
    have seg : ∀ (word : List UInt8) (xs : List ByteArray), Ok word xs → ∃ r, segL word xs = 32 :: r ∧ r.length ≤ 4000000001 := by
      intro word xs h
      refine ⟨_, rfl, ?_⟩
      have := h.s
      simp only [segL, List.length_append, List.length_cons] at this ⊢
      simp at this ⊢
      omega
    rcases (by omega : k = 0 ∨ k = 1 ∨ k = 2 ∨ k = 3 ∨ k = 4) with rfl | rfl | rfl | rfl | rfl
    · exact seg _ _ (ok0 _ (dAcc_lt mo hmo 12) _ (by decide))
    · exact seg _ _ (ok0 _ (mAcc_lt mo 12 (by omega)) _ (by decide))
    · exact seg _ _ (ok2 s hs _ (by decide))
    · exact seg _ _ (ok3 wd)
    · exact seg _ _ (ok4 ts hts)
  obtain ⟨r, h1, h2⟩ := key
  exact ⟨r, by rw [item_pow mo s wd ts k hk, h1]; rfl, h1, h2⟩
theorem tcs_len (ts : List (Int × Int)) : (tcs ts).length = ts.length * 2 := by
  induction ts with
  | nil => rfl
  | cons a ts ih => show (tcs ts).length + 1 + 1 = _; rw [ih]; simp; omega
theorem tcs_one (ts : List (Int × Int)) : ∀ v ∈ tcs ts, v.oneCell' = true := by
  intro v hv
  obtain ⟨t, _, ht⟩ := List.mem_flatMap.1 hv
  simp at ht
  rcases ht with rfl | rfl <;> rfl
theorem Times.below {w w' : World} {tv : Value} {ts : List (Int × Int)} (h : Times w tv ts) (hb : Below w.heap.size w w') : Times w' tv ts := by
  obtain ⟨ao, cap, h1, h2, h3⟩ := h
  exact ⟨ao, cap, h1, h2, fun j t ht => by obtain ⟨g, h4, h5, h6⟩ := h3 j t ht; exact ⟨g, h4, cell_keep hb h5, cell_keep hb h6⟩⟩
theorem bit_shr (x k : Nat) (hx : x < 18446744073709551616) : (bits .and .u64 ((x : Int) / 2 ^ k) 1 == 1) = x.testBit k := by
  have e : (x : Int) / 2 ^ k = ((x / 2 ^ k : Nat) : Int) := by simp
  have h := bits_and_u64_nat (x / 2 ^ k) 1 (Nat.lt_of_le_of_lt (Nat.div_le_self _ _) hx) (by omega)
  rw [e]
  rw [show ((1 : Nat) : Int) = 1 from rfl] at h
  rw [h, Nat.testBit_eq_decide_div_mod_eq, Nat.and_one_is_mod, Bool.eq_iff_iff]
  simp only [beq_iff_eq, decide_eq_true_eq]
  omega
theorem wants_len0 (mo : Nat → Nat) (hmo : ∀ j, mo j < 18446744073709551616) (s : ByteArray) (hs : s.size ≤ 1000000) (wd : Nat) (ts : List (Int × Int)) (hts : ts.length ≤ 1000000) (x : Nat) (C : Nat) (hC : 4000000002 ≤ C) :
    ∀ k, k ≤ 5 → (wants mo s wd ts x k).length ≤ 4 + k * C := by
  intro k
  induction k with
  | zero => intro _; simp [wants]
  | succ k ih =>
    intro hk
    have h1 := ih (by omega)
    obtain ⟨r, _, h3, h4⟩ := item_aln mo hmo s hs wd ts hts k (by omega)
    rw [wants, List.length_append, Nat.succ_mul]
    split
    · rw [h3, List.length_cons]; omega
    · rw [List.length_nil]; omega
theorem wants_len (mo : Nat → Nat) (hmo : ∀ j, mo j < 18446744073709551616) (s : ByteArray) (hs : s.size ≤ 1000000) (wd : Nat) (ts : List (Int × Int)) (hts : ts.length ≤ 1000000) (x : Nat) (k : Nat) (hk : k ≤ 5) :
    (wants mo s wd ts x k).length ≤ 4 + k * 4000000002 := wants_len0 mo hmo s hs wd ts hts x 4000000002 (Nat.le_refl _) k hk
theorem jn_snoc (xs : List ByteArray) (x : ByteArray) : jn (xs ++ [x]) = jn xs ++ ((if xs = [] then [] else [44, 32]) ++ x.data.toList) := by
  cases xs with
  | nil => simp [jn, Lib.join_one, Lib.join_nil]
  | cons y r => simp [jn, Lib.join_cons, Lib.joinTail]
/-- what the law's own loop has gathered after k times -/
def sj (ts : List (Int × Int)) (k : Nat) : List UInt8 := [116, 105, 109, 101, 32, 123, 32] ++ jn ((ts.take k).map ckt)
theorem ckt_list (t : Int × Int) : (ckt t).data.toList = cb t.1 ++ ([45] ++ cb t.2) := by simp [ckt]
theorem sj_succ (ts : List (Int × Int)) (k : Nat) (hk : k < ts.length) : sj ts (k + 1) = (sj ts k ++ (if k = 0 then [] else [44, 32])) ++ cb ts[k].1 ++ [45] ++ cb ts[k].2 := by
  have e : (ts.take (k + 1)).map ckt = (ts.take k).map ckt ++ [ckt ts[k]] := by rw [List.take_add_one, List.getElem?_eq_getElem hk, List.map_append]; rfl
  have h0 : ((ts.take k).map ckt = []) = (k = 0) := by
    apply propext
    rw [List.map_eq_nil_iff, List.take_eq_nil_iff]
    constructor
    · rintro (h | h)
      · exact h
      · rw [h] at hk; simp at hk
    · exact .inl
  unfold sj
  rw [e, jn_snoc, ckt_list]
  simp only [h0]
  simp only [List.append_assoc]
theorem sj_len (ts : List (Int × Int)) (k : Nat) (hk : k ≤ ts.length) : (sj ts k).length ≤ 7 + k * 11 := by
  have h := jn_len ((ts.take k).map ckt) 9 (by
    intro y hy
    obtain ⟨t, _, rfl⟩ := List.mem_map.1 hy
    unfold ckt
    rw [ByteArray.size_append, ByteArray.size_append]
    show 4 + 1 + 4 ≤ 9
    omega)
  have : ((ts.take k).map ckt).length = k := by simp; omega
  rw [this] at h
  unfold sj
  rw [List.length_append]
  show 7 + _ ≤ _
  omega
theorem sj_end (mo : Nat → Nat) (s : ByteArray) (wd : Nat) (ts : List (Int × Int)) : sj ts ts.length ++ [32, 125, 59] = itemL mo s wd ts 16 := by
  have := item_pow mo s wd ts 4 (by omega)
  rw [show (2 : Nat) ^ 4 = 16 from rfl] at this
  rw [this]
  simp [sj, sgk, sg4, segL]
theorem cb_len (m : Int) : (cb m).length = 4 := rfl
theorem conv_own (B : Nat) (v : Value) (l : List UInt8) (w : World) (h : w.ownsRow B 5 1 v l.length (Lib.byteCells l)) (hl : 0 < l.length) : (convert 36 9 v).run Tryf.prog w = .ok (.string ⟨l.toArray⟩) w := by
  obtain ⟨g, cap, rfl, _, _⟩ := h.form hl
  have hb : Lib.Bytes w g 0 ⟨l.toArray⟩ := fun i hi => by
    have hi' : i < l.length := hi
    rw [Nat.zero_add, h.cellAt i (by omega)]
    simp [Lib.byteCells, List.getElem?_eq_getElem hi', ByteArray.getElem_eq_getElem_data]
  exact Lib.run_convert_whole (P := Tryf.prog) w 36 5 9 Tryf.underlying36 Tryf.underlying5 Tryf.underlying9 g 0 ⟨l.toArray⟩ hb cap
/-- the law's own bytes: a full row of a literal, or a row that they own -/
def SegV (B : Nat) (w : World) (v : Value) (l : List UInt8) : Prop :=
  w.ownsRow B 5 1 v l.length (Lib.byteCells l) ∨ ∃ g, v = .slice (some ⟨g, 0, none⟩) l.length l.length ∧ ∀ j u, (Lib.byteCells l)[j]? = some u → w.cell? ⟨g, j, none⟩ = some u
theorem own_le {w : World} {base base' n : Nat} {v : Value} {xs : List Value} (h : w.ownsRow base 5 1 v n xs) (hb : base' ≤ base) : w.ownsRow base' 5 1 v n xs :=
  ⟨h.1, h.2.imp id fun ⟨g, cap, cur, h1, h2, h3⟩ => ⟨g, cap, cur, h1, Nat.le_trans hb h2, h3⟩⟩
theorem bytes_len (l : List UInt8) : (Lib.byteCells l).length = l.length := by simp [Lib.byteCells]
theorem str_cells (l : List UInt8) : Lib.strCells ⟨l.toArray⟩ = Lib.byteCells l := by simp [Lib.strCells, Lib.byteCells]
theorem bytes_app (l m : List UInt8) : Lib.byteCells l ++ Lib.byteCells m = Lib.byteCells (l ++ m) := by simp [Lib.byteCells]
theorem append_seg_string (w : World) {ops : Array Oper} {rest : List Oper} {o : Oper} {a : Act} {Q : Exit → Act → World → Prop} (hgd : o.guard = none) (sl x : Operand)
    (ho : o.op = .call { callee := .builtin .append, args := #[sl, x], argTypes := #[36, 9] }) (B : Nat) (v : Value) (l m : List UInt8) (hs : a.eval sl = v) (hS : SegV B w v l) (hx : a.eval x = .string ⟨m.toArray⟩) (hm : 0 < m.length)
    (hl : l.length + m.length ≤ 1000000000) (hB : B ≤ w.heap.size)
    (h : ∀ v' w', w'.ownsRow B 5 1 v' (l ++ m).length (Lib.byteCells (l ++ m)) → Below B w w' → wpList Tryf.prog ops Q rest (a.put o.dst v') w') : wpList Tryf.prog ops Q (o :: rest) a w := by
  obtain ⟨i0, hi, hz0, hz1, hz2⟩ := info_parts info5
  have hsz : (⟨m.toArray⟩ : ByteArray).size = m.length := by show m.toArray.size = _; simp
  rcases hS with hown | ⟨g, rfl, hc⟩
  · refine Lib.wpList_append_own_string _ hgd sl x 36 9 ho B 5 i0 Tryf.underlying36 Tryf.underlying9 hi hz0 hz1 hz2 v l.length (Lib.byteCells l) hs hown ⟨m.toArray⟩ hx (by rw [hsz]; unfold maxLen; omega) (by rw [hsz]; omega) hB ?_
    intro v' w' h1 h2 _
    rw [hsz, str_cells, bytes_app, ← List.length_append] at h1
    exact h v' w' h1 ((Below.refl B w).grown h2 hB (fun k hk => (hown.lt k hk).1))
  · refine wpList_plain hgd fun K hK => ?_
    have hr := Lib.run_append_grow_string (P := Tryf.prog) w 36 9 o.type 5 i0 (.int .u8 0) Tryf.underlying36 Tryf.underlying9 hi hz0 ⟨g, 0, none⟩ l.length l.length (Lib.byteCells l) (by rw [hz1, bytes_len]; omega) (fun j u hj => by rw [Addr.add_lit, Nat.zero_add]; exact hc j u hj) ⟨m.toArray⟩ (by rw [hsz]; omega) (by rw [hsz]; omega) (by rw [hz2, hsz]; exact growslice_fits (by omega) (by omega))
    unfold Oper.wp execOp
    simp only [ho, resolve, invoke, builtin, Sem.run_bind, Sem.run_pure, Result.andThen_ok, List.map_toArray, List.map_cons, List.map_nil, hs, hx, hr]
    refine hK _ _ (h _ _ ?_ ?_)
    · have hge := grownCap_ge w (l.length + m.length) l.length 5
      have hcm : grownCap w (l.length + m.length) l.length 5 ≤ maxLen := grownCap_le_maxLen w (l.length + m.length) l.length 5 (by unfold maxLen; omega)
      rw [hsz, str_cells, List.length_append]
      refine ⟨by rw [bytes_len, List.length_append]; omega, .inr ⟨w.heap.size, _, _, rfl, hB, heap_alloc_new w.drew _, hge, hcm, ?_, ?_⟩⟩
      · have hz1 : (Value.int IntKind.u8 0).cells.size = 1 := rfl
        simp only [Array.size_append, List.size_toArray, size_zeroCells, hz1, bytes_len]
        omega
      · simp only [Array.toList_append, List.append_assoc]
        rw [← List.append_assoc, bytes_app]
        exact List.take_left' (by rw [bytes_len, List.length_append]; omega)
    · exact ((Below.refl B w).drew).alloc hB _
set_option maxHeartbeats 2000000 in
set_option maxRecDepth 8000 in
theorem appendTwo_seg (B : Nat) (v : Value) (l : List UInt8) (n : Int) (w : World) (hS : SegV B w v l) (hl : l.length ≤ 100000000) (hB : B ≤ w.heap.size) :
    Calls Tryf.prog 18 #[v, .int .i64 n] w fun e w' => ∃ v', e = .returned v' ∧ w'.ownsRow B 5 1 v' (l.length + 2) (Lib.byteCells (l ++ [u8 (dA n), u8 (dB n)])) ∧ Below B w w' := by
  rcases hS with hown | ⟨g, rfl, hc⟩
  · exact appendTwo_any B v l n w hown (by omega) hB
  obtain ⟨i0, hi, hz0, hz1, hz2⟩ := info_parts info5
  have hcell : ∀ j u, (Lib.byteCells l)[j]? = some u → ∀ o, (w.alloc o).cell? ⟨g, j, none⟩ = some u := fun j u hj o => by
    rw [World.cell?_alloc_lt _ _ ⟨g, j, none⟩ (World.block_lt_of_cell? w ⟨g, j, none⟩ (hc j u hj))]
    exact hc j u hj
  have HC : Hid (∀ j u, (Lib.byteCells l)[j]? = some u → ∀ o, (w.alloc o).cell? ⟨g, j, none⟩ = some u) := hcell
  clear hcell hc
  go_enter Tryf.func18, Tryf.ntmps18
  go_wp2_with (at_builtin; refine wpList_append_grows _ rfl _ _ 36 rfl 5 i0 (.int .u8 0) 1 1 Tryf.underlying36 hi hz0 hz1 hz2 rfl (by decide) (some ⟨g, 0, none⟩) l.length l.length (Lib.byteCells l) rfl (by simp) (by rw [bytes_len]; omega) ?c0 ⟨w.heap.size, 0, none⟩ 2 2 [.int .u8 (dA n), .int .u8 (dB n)] rfl rfl ?c1 ?c2 ?c6 ?c3 ?c4 ?_)
  case c0 =>
    intro b hb j u hj
    obtain rfl : ⟨g, 0, none⟩ = b := by simpa using hb
    rw [Addr.add_lit, Nat.zero_add]
    exact HC.out j u hj _
  case c1 =>
    intro j u hj
    match j, hj with
    | 0, hj =>
      have : Value.int .u8 (dA n) = u := by simpa using hj
      rw [← this]
      unfold dA
      simp [Addr.add]
    | 1, hj =>
      have : Value.int .u8 (dB n) = u := by simpa using hj
      rw [← this]
      unfold dB
      simp [Addr.add]
  case c2 => intro u hu; simp at hu; rcases hu with rfl | rfl <;> rfl
  case c6 => omega
  case c3 => unfold maxLen; omega
  case c4 => omega
  intro v' w2 hown' hgrow
  go_wp2_with fail
  go_ret
  refine ⟨v', rfl, ?_, ?_⟩
  · rw [← bc2 l _ _ (dA_b n) (dB_b n)]; exact own_le (base := w.heap.size + 1) hown' (by omega)
  · exact ((Below.refl B w).alloc hB _).grown hgrow (by simp; omega) (fun k hk => by cases hk)
set_option maxHeartbeats 2000000 in
set_option maxRecDepth 8000 in
theorem appendClock_seg (B : Nat) (v : Value) (l : List UInt8) (m : Int) (w : World) (hS : SegV B w v l) (hl : l.length ≤ 10000000) (hB : B ≤ w.heap.size) :
    Calls Tryf.prog 13 #[v, .int .i64 m] w fun e w' => ∃ v', e = .returned v' ∧ w'.ownsRow B 5 1 v' (l ++ cb m).length (Lib.byteCells (l ++ cb m)) ∧ Below B w w' := by
  have c1 := appendTwo_seg B v l (wrap64 (m.tdiv 60)) w hS (by omega) hB
  go_enter Tryf.func13, Tryf.ntmps13
  go_wp2_with fail
  refine c1.mono ?_
  rintro e w1 ⟨v1, rfl, h1, hb1⟩
  have c2 := appendTwo_any B v1 (l ++ [u8 (dA (wrap64 (m.tdiv 60))), u8 (dB (wrap64 (m.tdiv 60)))]) (m.tmod 60) w1 (by simpa using h1) (by simp; omega) (Nat.le_trans hB hb1.size)
  clear c1
  go_wp2_with fail
  refine c2.mono ?_
  rintro e w2 ⟨v2, rfl, h2, hb2⟩
  go_wp2_with fail
  go_ret
  refine ⟨v2, rfl, ?_, hb1.trans hb2⟩
  have e1 : l ++ [u8 (dA (wrap64 (m.tdiv 60))), u8 (dB (wrap64 (m.tdiv 60)))] ++ [u8 (dA (m.tmod 60)), u8 (dB (m.tmod 60))] = l ++ cb m := by simp [cb]
  rw [e1] at h2
  have e2 : (l ++ [u8 (dA (wrap64 (m.tdiv 60))), u8 (dB (wrap64 (m.tdiv 60)))]).length + 2 = (l ++ cb m).length := by simp [cb]
  rw [e2] at h2
  exact h2
end Go.Proofs.Qxb6615962aFmt
