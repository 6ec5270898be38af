import Derived.Test.Qxb6615962aFmtItK
import Derived.Deep.AppendLies
import Derived.Deep.RegionHeld3
set_option linter.unusedSimpArgs false
set_option linter.defProp false
namespace Go.Proofs.Qxb6615962aFmt
open Go.RowKit Go.Stop
theorem app65 (w : World) {ops : Array Oper} {o : Oper} {a : Act} {K : Act → World → Prop} {Q : Exit → Act → World → Prop} {E : Prop} (hgd : o.guard = none) (s x : Operand)
    (ho : o.op = .call { callee := .builtin .append, args := #[s, x], argTypes := #[65, 65] })
    (base : Nat) (v : Value) (n : Nat) (xs : List Value) (hs : a.eval s = v) (hown : w.ownsRow base 9 1 v n xs)
    (b : Nat) (c : Nat) (u : Value) (hx : a.eval x = .slice (some ⟨b, 0, none⟩) 1 c) (hu : w.cell? ⟨b, 0, none⟩ = some u) (h1 : u.oneCell' = true)
    (hn : n ≤ 1000000) (hbase : base ≤ w.heap.size)
    (h : ∀ g cap w', w'.ownsRow base 9 1 (.slice (some ⟨g, 0, none⟩) (n + 1) cap) (n + 1) (xs ++ [u]) → w.grownBy w' v.ownBlock → (v.ownBlock = some g ∨ g = w.heap.size) → g < w'.heap.size → K (a.put o.dst (.slice (some ⟨g, 0, none⟩) (n + 1) cap)) w') :
    if Region.wanted o (yielded ops a.tmps) = true then Oper.wp Tryf.prog o a w K Q else E := by
  obtain ⟨i0, hi, hz0, hz1, hz2⟩ := info_parts info9
  refine step_append_lies w hgd s x 65 ho base 9 i0 (.string ⟨#[]⟩) 1 16 Tryf.underlying65 hi hz0 hz1 hz2 (by kernel_rfl) (by omega) v n xs hs hown ⟨b, 0, none⟩ 1 c [u] hx rfl ?_ (by simpa using h1) (by omega) (by unfold maxLen; omega) (by omega) hbase _ rfl h
  intro j u' hj
  match j, hj with
  | 0, hj =>
    have : u = u' := by simpa using hj
    subst this
    rw [Addr.add_mid]
    exact hu
/-- the clock ranges of a clause -/
def Times (W : World) (tv : Value) (ts : List (Int × Int)) : Prop := ∃ ao cap, tv = .slice ao ts.length cap ∧ ts.length ≤ cap ∧ ∀ (j : Nat) (t : Int × Int), ts[j]? = some t → ∃ g, ao = some ⟨g, 0, none⟩ ∧ W.cell? ⟨g, j * 2, none⟩ = some (.int .i64 t.1) ∧ W.cell? ⟨g, j * 2 + 1, none⟩ = some (.int .i64 t.2)
/-- a clause -/
structure Cl (W : World) (c D : Nat) (mo : Nat → Nat) (s : ByteArray) (wd : Nat) (tv : Value) (ts : List (Int × Int)) : Prop where
  c2 : W.cell? ⟨c, 2, none⟩ = some (.pointer (some ⟨D, 0, none⟩))
  c3 : W.cell? ⟨c, 3, none⟩ = some (.int .u64 (wd : Int))
  c4 : W.cell? ⟨c, 4, none⟩ = some tv
  dm : ∀ j, j < 12 → W.cell? ⟨D, j, none⟩ = some (.int .u64 (mo j : Int))
  d12 : W.cell? ⟨D, 12, none⟩ = some (.string s)
  tm : Times W tv ts
theorem cell_keep {w w' : World} (hb : Below w.heap.size w w') {b o : Nat} {v : Value} (h : w.cell? ⟨b, o, none⟩ = some v) : w'.cell? ⟨b, o, none⟩ = some v := by
  rw [hb.cell (p := ⟨b, o, none⟩) (World.block_lt_of_cell? w ⟨b, o, none⟩ h)]
  exact h
theorem Cl.below {w w' : World} {c D : Nat} {mo : Nat → Nat} {s : ByteArray} {wd : Nat} {tv : Value} {ts : List (Int × Int)} (h : Cl w c D mo s wd tv ts) (hb : Below w.heap.size w w') : Cl w' c D mo s wd tv ts := by
  constructor
  · exact cell_keep hb h.c2
  · exact cell_keep hb h.c3
  · exact cell_keep hb h.c4
  · exact fun j hj => cell_keep hb (h.dm j hj)
  · exact cell_keep hb h.d12
  · obtain ⟨ao, cap, h1, h2, h3⟩ := h.tm
    exact ⟨ao, cap, h1, h2, fun j t ht => by obtain ⟨g, h4, h5, h6⟩ := h3 j t ht; exact ⟨g, h4, cell_keep hb h5, cell_keep hb h6⟩⟩
/-- a clock range's text -/
def ckt (t : Int × Int) : ByteArray := (⟨(cb t.1).toArray⟩ ++ ⟨#[45]⟩) ++ ⟨(cb t.2).toArray⟩
/-- what holds through the region of one clock range -/
def SX (W4 : World) (b : Nat) (t : Int × Int) (w' : World) : Prop := Below W4.heap.size W4 w' ∧ w'.cell? ⟨b, 0, none⟩ = some (.int .i64 t.1) ∧ w'.cell? ⟨b, 1, none⟩ = some (.int .i64 t.2)
theorem SX.below {W4 a w' : World} {b : Nat} {t : Int × Int} (h : SX W4 b t a) (hb : Below a.heap.size a w') : SX W4 b t w' :=
  ⟨h.1.trans (hb.mono h.1.size), cell_keep hb h.2.1, cell_keep hb h.2.2⟩
theorem SX.grown {W4 a w' : World} {b k : Nat} {t : Int × Int} {v : Value} {xs : List Value} (h : SX W4 b t a) (hrow : a.ownsRow W4.heap.size 9 1 v k xs) (hg : a.grownBy w' v.ownBlock) (hne : v.ownBlock ≠ some b) : SX W4 b t w' := by
  have hc : ∀ o, w'.cell? ⟨b, o, none⟩ = a.cell? ⟨b, o, none⟩ := fun o => World.cell?_of_block (hg.block b (World.block_lt_of_cell? a ⟨b, 0, none⟩ h.2.1) (fun e => hne e.symm))
  refine ⟨h.1.grown hg h.1.size (fun j hj => ?_), by rw [hc]; exact h.2.1, by rw [hc]; exact h.2.2⟩
  rcases hrow.2 with ⟨rfl, _⟩ | ⟨g, cap, cur, rfl, hB, _⟩
  · cases hj
  · have : g = j := by simpa [Value.ownBlock] using hj
    omega
/-- the five segments -/
def sg0 (mo : Nat → Nat) : List UInt8 := segL [100, 97, 121] ((runsOf (dAcc mo 12)).map (txt nmI))
def sg1 (mo : Nat → Nat) : List UInt8 := segL [109, 111, 110, 116, 104] ((runsOf (mAcc mo 12)).map (txt nmI))
def sg2 (s : ByteArray) : List UInt8 := segL [121, 101, 97, 114] ((yruns s).map (txt yN))
def sg3 (wd : Nat) : List UInt8 := segL [] ((runsOf wd).map (txt wkN))
def sg4 (ts : List (Int × Int)) : List UInt8 := segL [] (ts.map ckt)
/-- what a set's segment may weigh -/
theorem segL_len (word : List UInt8) (xs : List ByteArray) (K : Nat) (hw : word.length ≤ 100) (h : ∀ x ∈ xs, x.size ≤ K) : (segL word xs).length ≤ xs.length * (K + 2) + 200 := by
  have := jn_len xs K h
  unfold segL
  split <;> simp <;> omega
/-- a row of bytes that a set's text is appended to: what the writes ask, once for all -/
structure Ok (word : List UInt8) (xs : List ByteArray) : Prop where
  n : xs.length ≤ 1000000
  j : (jn xs).length ≤ 4000000000
  s : (segL word xs).length ≤ 4000000001
theorem ok_of (word : List UInt8) (xs : List ByteArray) (hw : word.length ≤ 100) (hn : xs.length ≤ 1000000) (h : ∀ x ∈ xs, x.size ≤ 3000) : Ok word xs := by
  have h1 := jn_len xs 3000 h
  have h2 := segL_len word xs 3000 hw h
  exact ⟨hn, by omega, by omega⟩
theorem ok0 (x : Nat) (hx : x < 2 ^ 64) (word : List UInt8) (hw : word.length ≤ 100) : Ok word ((runsOf x).map (txt nmI)) := by
  refine ok_of _ _ hw (by rw [List.length_map]; exact Nat.le_trans (runsF_len 64 x) (by omega)) fun y hy => ?_
  obtain ⟨p, hp, rfl⟩ := List.mem_map.1 hy
  obtain ⟨h1, h2⟩ := runsF_mem 64 x hx p hp
  exact txt_size nmI p (nmI_size _ h1.1 h1.2) (nmI_size _ h2.1 h2.2)
theorem ok3 (x : Nat) : Ok [] ((runsOf x).map (txt wkN)) := by
  refine ok_of _ _ (by simp) (by rw [List.length_map]; exact Nat.le_trans (runsF_len 64 x) (by omega)) fun y hy => ?_
  obtain ⟨p, hp, rfl⟩ := List.mem_map.1 hy
  exact txt_size wkN p (Nat.le_trans (wkN_size _) (by omega)) (Nat.le_trans (wkN_size _) (by omega))
theorem ok2 (s : ByteArray) (hs : s.size ≤ 1000000) (word : List UInt8) (hw : word.length ≤ 100) : Ok word ((yruns s).map (txt yN)) := by
  refine ok_of _ _ hw (by rw [List.length_map]; unfold yruns; simp; omega) fun y hy => ?_
  obtain ⟨p, hp, rfl⟩ := List.mem_map.1 hy
  unfold yruns at hp
  obtain ⟨i, _, rfl⟩ := List.mem_map.1 hp
  obtain ⟨h1, h2⟩ := yrun_bounds s i
  exact txt_size yN _ (yN_size _ (wf_year _ h1)) (yN_size _ (wf_year _ h2))
theorem ok4 (ts : List (Int × Int)) (h : ts.length ≤ 1000000) : Ok [] (ts.map ckt) := by
  refine ok_of _ _ (by simp) (by rw [List.length_map]; exact h) fun y hy => ?_
  obtain ⟨t, _, rfl⟩ := List.mem_map.1 hy
  unfold ckt
  rw [ByteArray.size_append, ByteArray.size_append]
  show 4 + 1 + 4 ≤ 3000
  omega
/-- the item's text -/
def itemL (mo : Nat → Nat) (s : ByteArray) (wd : Nat) (ts : List (Int × Int)) (x : Nat) : List UInt8 :=
  [116, 105, 109, 101] ++ (if x.testBit 0 then sg0 mo else []) ++ (if x.testBit 1 then sg1 mo else []) ++ (if x.testBit 2 then sg2 s else []) ++ (if x.testBit 3 then sg3 wd else []) ++ (if x.testBit 4 then sg4 ts else []) ++ [59]
end Go.Proofs.Qxb6615962aFmt
