import Derived.Test.Qxb6615986aDoorLawA
import Derived.OpenShut
set_option maxRecDepth 8000
namespace Go.Proofs.Qxb6615986aDoor
open Go.ChangeShapes Go.RowKit

section
variable {H : Type} {enc : TypeId × Value → H} {P : Program} {w : World} {base : Nat} {sp : Nat → Bool} {held : Bool}

theorem trod_int {e : TypeId} {k : IntKind} {m : Nat} {cs : List Value} {x : DataW H × List MemPlace} (he : P.underlying e = some (.int k)) (h : DataW.trod enc P w base sp held m e cs = some x) :
    ∃ n, cs = [.int k n] ∧ (Lit.int k n).wf = true ∧ x = (.lit (.int k n), []) := by
  cases m with
  | zero => simp [DataW.trod] at h
  | succ m =>
    unfold DataW.trod at h
    rw [he] at h
    split at h <;> simp_all
theorem ind_int {e : TypeId} {k : IntKind} (he : P.underlying e = some (.int k)) (w w' : World) (sp' : Nat → Bool) (m : Nat) (cs : List Value) : DataW.trod enc P w base sp held m e cs = DataW.trod enc P w' base sp' held m e cs := by
  cases m with
  | zero => rfl
  | succ m =>
    unfold DataW.trod
    rw [he]
    match cs with
    | [] => rfl
    | [v] => cases v <;> rfl
    | a :: _ :: _ => cases a <;> rfl
theorem ind_arr {t e : TypeId} {n : Nat} (ht : P.underlying t = some (.array n e)) (w w' : World) (sp' : Nat → Bool) (ih : ∀ m cs, DataW.trod enc P w base sp held m e cs = DataW.trod enc P w' base sp' held m e cs) (m : Nat) (cs : List Value) :
    DataW.trod enc P w base sp held m t cs = DataW.trod enc P w' base sp' held m t cs := by
  cases m with
  | zero => rfl
  | succ m => simp only [DataW.trod, ht, ih]
theorem ind_struct3 {t : TypeId} {f0 f1 f2 : Field} (ht : P.underlying t = some (.struct #[f0, f1, f2])) (w w' : World) (sp' : Nat → Bool) (i0 : ∀ m cs, DataW.trod enc P w base sp held m f0.type cs = DataW.trod enc P w' base sp' held m f0.type cs)
    (i1 : ∀ m cs, DataW.trod enc P w base sp held m f1.type cs = DataW.trod enc P w' base sp' held m f1.type cs) (i2 : ∀ m cs, DataW.trod enc P w base sp held m f2.type cs = DataW.trod enc P w' base sp' held m f2.type cs) (m : Nat) (cs : List Value) :
    DataW.trod enc P w base sp held m t cs = DataW.trod enc P w' base sp' held m t cs := by
  cases m with
  | zero => rfl
  | succ m => simp only [DataW.trod, ht, List.mapM_cons, List.mapM_nil, i0, i1, i2]
theorem all_cells (cs : List Value) (h : ∀ (i : Nat) (v : Value), cs[i]? = some v → ∃ b, v = Extern.Stop.cell b) : ∃ bs : List UInt8, cs = bs.map Extern.Stop.cell := by
  induction cs with
  | nil => exact ⟨[], rfl⟩
  | cons v r ih =>
    obtain ⟨b, hb⟩ := h 0 v rfl
    obtain ⟨bs, hbs⟩ := ih (fun i u hu => h (i + 1) u (by simpa using hu))
    exact ⟨b :: bs, by rw [hb, hbs]; rfl⟩
theorem cell_of_wf {n : Int} (h : (Lit.int .u8 n).wf = true) : ∃ b : UInt8, Value.int .u8 n = Extern.Stop.cell b := by
  have hb := bounds_u8 h
  refine ⟨UInt8.ofNat n.toNat, ?_⟩
  unfold Extern.Stop.cell
  congr 1
  have : (UInt8.ofNat n.toNat).toNat = n.toNat := by
    rw [UInt8.toNat_ofNat']
    omega
  rw [this]
  show n = ((n.toNat : Nat) : Int)
  omega
theorem trod_bytes {t e : TypeId} {n m : Nat} {cs : List Value} {x : DataW H × List MemPlace} (ht : P.underlying t = some (.array n e)) (he : P.underlying e = some (.int .u8)) (ce : P.cellsOf e = 1) (ct : P.cellsOf t = n)
    (h : DataW.trod enc P w base sp held m t cs = some x) : ∃ bs : List UInt8, bs.length = n ∧ cs = bs.map Extern.Stop.cell ∧ x.2 = [] := by
  obtain ⟨xs, m', rfl, rfl, hl, hx, hall⟩ := DataW.trod_array ht h
  rw [ct] at hl
  have el : ∀ i, i < n → ∃ k, (cs.drop i).take 1 = [.int .u8 k] ∧ (Lit.int .u8 k).wf = true ∧ xs[i]? = some (.lit (.int .u8 k), []) := fun i hi => by
    have h1 := hall i hi
    rw [ce, Nat.mul_one] at h1
    obtain ⟨y, hy⟩ : ∃ y, xs[i]? = some y := ⟨xs[i]'(by omega), List.getElem?_eq_getElem _⟩
    rw [hy] at h1
    obtain ⟨k, h2, h3, h4⟩ := trod_int he h1
    exact ⟨k, h2, h3, by rw [hy, h4]⟩
  have hc : ∀ (i : Nat) (v : Value), cs[i]? = some v → ∃ b, v = Extern.Stop.cell b := fun i v hv => by
    have hi : i < n := by
      rw [← hl]
      exact (List.getElem?_eq_some_iff.1 hv).1
    obtain ⟨k, h2, h3, _⟩ := el i hi
    obtain ⟨b, hb⟩ := cell_of_wf h3
    refine ⟨b, ?_⟩
    rw [← hb]
    have h5 : ((cs.drop i).take 1)[0]? = some v := by
      rw [List.getElem?_take, if_pos (by omega), List.getElem?_drop]
      simpa using hv
    rw [h2] at h5
    simpa using h5.symm
  obtain ⟨bs, hbs⟩ := all_cells cs hc
  refine ⟨bs, by rw [hbs] at hl; simpa using hl, hbs, ?_⟩
  show xs.flatMap (·.2) = []
  rw [List.flatMap_eq_nil_iff]
  intro y hy
  obtain ⟨i, hi⟩ := List.getElem?_of_mem hy
  have hi' : i < n := by
    rw [← hx]
    exact (List.getElem?_eq_some_iff.1 hi).1
  obtain ⟨k, _, _, h4⟩ := el i hi'
  rw [hi] at h4
  cases h4
  rfl
end

theorem c5 : Tryd.prog.cellsOf 5 = 1 := by kernel_rfl
theorem c22 : Tryd.prog.cellsOf 22 = 20 := by kernel_rfl
theorem c23 : Tryd.prog.cellsOf 23 = 4 := by kernel_rfl
theorem c24 : Tryd.prog.cellsOf 24 = 1 := by kernel_rfl
theorem c26 : Tryd.prog.cellsOf 26 = 25 := by kernel_rfl
theorem c43 : Tryd.prog.cellsOf 43 = 1 := by kernel_rfl
theorem c41 : Tryd.prog.cellsOf 41 = 1 := by kernel_rfl

section
variable {H : Type} {enc : TypeId × Value → H} {w : World} {base : Nat} {sp : Nat → Bool} {held : Bool}

theorem idv_eq (s : ID20) : idv s = (s.1.map Extern.Stop.cell).toArray := by
  apply Array.ext_getElem?
  intro j
  rw [idv_get]
  simp
/-- an id, opened -/
theorem open22 {r : Reach} {b0 : Nat} {v : Value} {d : DataW H} {ps : List MemPlace} (hv : Value.okWide Tryd.prog w r b0 22 v) (h : DataW.Trod enc Tryd.prog w base sp held 22 v d ps) :
    ∃ s : ID20, v = .agg (idv s) ∧ ps = [] ∧ ∀ w' sp', DataW.Trod enc Tryd.prog w' base sp' held 22 v d ps := by
  obtain ⟨fuel, h⟩ := h
  simp only [Value.okWide, Tryd.underlying22] at hv
  obtain ⟨cs, rfl, _, _⟩ := hv
  have hind := fun w' sp' => (ind_arr (enc := enc) (base := base) (sp := sp) (held := held) Tryd.underlying22 w w' sp' (ind_int Tryd.underlying5 w w' sp') fuel (Value.agg cs).cells.toList)
  obtain ⟨bs, h1, h2, h3⟩ := trod_bytes Tryd.underlying22 Tryd.underlying5 c5 c22 h
  obtain ⟨s, rfl⟩ : ∃ s : ID20, s.1 = bs := ⟨⟨bs, h1⟩, rfl⟩
  refine ⟨s, ?_, h3, fun w' sp' => ⟨fuel, by rw [← hind w' sp']; exact h⟩⟩
  have h2' : cs.toList = s.1.map Extern.Stop.cell := h2
  rw [idv_eq]
  congr 1
  rw [← Array.toArray_toList (xs := cs), h2']
/-- a peer, opened -/
theorem open26 {r : Reach} {b0 : Nat} {v : Value} {d : DataW H} {ps : List MemPlace} (hv : Value.okWide Tryd.prog w r b0 26 v) (h : DataW.Trod enc Tryd.prog w base sp held 26 v d ps) :
    ∃ (i : ID20) (p : Nat → Int) (q : Int), v = .agg (pv i p q) ∧ (∀ j, 0 ≤ p j ∧ p j < 256) ∧ ps = [] ∧ ∀ w' sp', DataW.Trod enc Tryd.prog w' base sp' held 26 v d ps := by
  obtain ⟨fuel, h⟩ := h
  simp only [Value.okWide, Tryd.underlying26] at hv
  obtain ⟨cs, rfl, _, _⟩ := hv
  have hind := fun w' sp' => (ind_struct3 (enc := enc) (base := base) (sp := sp) (held := held) Tryd.underlying26 w w' sp' (ind_arr Tryd.underlying22 w w' sp' (ind_int Tryd.underlying5 w w' sp')) (ind_arr Tryd.underlying23 w w' sp' (ind_int Tryd.underlying5 w w' sp')) (ind_int Tryd.underlying24 w w' sp') fuel (Value.agg cs).cells.toList)
  have h0 := h
  obtain ⟨xs, m, rfl, hx, hl, hlen, hall⟩ := DataW.trod_struct Tryd.underlying26 h
  have hcs : (Value.agg cs).cells.toList = cs.toList := rfl
  rw [hcs] at hl hall h0
  rw [c26] at hl
  have hl25 : cs.size = 25 := by simpa using hl
  have a0 : DataW.trod enc Tryd.prog w base sp held m 22 ((cs.toList.drop 0).take (Tryd.prog.cellsOf 22)) = xs[0]? := hall 0 _ rfl
  have a1 : DataW.trod enc Tryd.prog w base sp held m 23 ((cs.toList.drop 20).take (Tryd.prog.cellsOf 23)) = xs[1]? := hall 1 _ rfl
  have a2 : DataW.trod enc Tryd.prog w base sp held m 24 ((cs.toList.drop 24).take (Tryd.prog.cellsOf 24)) = xs[2]? := hall 2 _ rfl
  rw [c22] at a0
  rw [c23] at a1
  rw [c24] at a2
  have hlen3 : xs.length = 3 := by simpa using hlen
  obtain ⟨y0, y1, y2, rfl⟩ : ∃ y0 y1 y2, xs = [y0, y1, y2] := by
    match xs, hlen3 with
    | [a, b, c], _ => exact ⟨a, b, c, rfl⟩
  obtain ⟨b20, l20, e20, n20⟩ := trod_bytes Tryd.underlying22 Tryd.underlying5 c5 c22 a0
  obtain ⟨b4, l4, e4, n4⟩ := trod_bytes Tryd.underlying23 Tryd.underlying5 c5 c23 a1
  obtain ⟨q, e1, _, n1⟩ := trod_int Tryd.underlying24 a2
  obtain ⟨u0, u1, u2, u3, rfl⟩ : ∃ u0 u1 u2 u3, b4 = [u0, u1, u2, u3] := by
    match b4, l4 with
    | [a, b, c, d], _ => exact ⟨a, b, c, d, rfl⟩
  have hsplit : cs.toList = b20.map Extern.Stop.cell ++ ([u0, u1, u2, u3].map Extern.Stop.cell ++ [.int .u16 q]) := by
    rw [← e20, ← e4, ← e1]
    have g1 : (cs.toList.drop 20).take 4 ++ (cs.toList.drop 24).take 1 = cs.toList.drop 20 := by
      have : (cs.toList.drop 24).take 1 = (cs.toList.drop 20).drop 4 := by
        rw [List.drop_drop]
        apply List.take_of_length_le
        simp; omega
      rw [this, List.take_append_drop]
    rw [g1, List.drop_zero, List.take_append_drop]
  obtain ⟨i, rfl⟩ : ∃ i : ID20, i.1 = b20 := ⟨⟨b20, l20⟩, rfl⟩
  refine ⟨i, fun j => (([u0, u1, u2, u3].getD j 0).toNat : Int), q, ?_, ?_, ?_, fun w' sp' => ⟨m + 1, by rw [← hind w' sp']; exact h⟩⟩
  · unfold pv
    rw [idv_eq]
    congr 1
    rw [← Array.toArray_toList (xs := cs), hsplit]
    simp [Extern.Stop.cell]
  · intro j
    have := UInt8.toNat_lt ([u0, u1, u2, u3].getD j 0)
    show (0 : Int) ≤ (([u0, u1, u2, u3].getD j 0).toNat : Int) ∧ (([u0, u1, u2, u3].getD j 0).toNat : Int) < 256
    constructor <;> omega
  · have hps : ps = [y0, y1, y2].flatMap (·.2) := congrArg Prod.snd hx
    have hn1 : y2.2 = [] := by rw [n1]
    rw [hps]
    simp [n20, n4, hn1]
end

theorem gl : Tryd.prog.globalNamed "net/netip.z4" = some 0 := by kernel_rfl
theorem gt : (Tryd.prog.globals[0]?).map (·.type) = some 43 := by kernel_rfl
/-- what the laid variable gives the walk -/
theorem z4_of_laid {W : World} (h : laidMet Tryd.prog [("net/netip.z4", .agg [.ptr (.agg [.lit (.bool false), .lit (.string [])])])] W) : ∃ z, W.cell? ⟨0, 0, none⟩ = some (.pointer (some z)) := by
  obtain ⟨ps, hv, _, _⟩ := h
  obtain ⟨g, t, cs, fuel, p, q, h1, h2, h3, h4, _, _⟩ := hv
  obtain rfl : 0 = g := Option.some.inj (gl.symm.trans h1)
  obtain rfl : 43 = t := Option.some.inj (gt.symm.trans h2)
  obtain ⟨xs, m, rfl, hx, hl, hlen, hall⟩ := DataW.trod_struct Tryd.underlying43 h4
  have a0 : DataW.trod (fun _ => ()) Tryd.prog W 0 (fun _ => true) false m 41 ((cs.toList.drop 0).take (Tryd.prog.cellsOf 41)) = xs[0]? := hall 0 _ rfl
  have hx1 : xs.map (·.1) = [.ptr (.agg [.lit (.bool false), .lit (.string [])])] := by
    have := congrArg Prod.fst hx
    exact (DataW.agg.inj this).symm
  obtain ⟨y, rfl⟩ : ∃ y, xs = [y] := by
    match xs, hlen with
    | [a], _ => exact ⟨a, rfl⟩
  have hy : y.1 = .ptr (.agg [.lit (.bool false), .lit (.string [])]) := by simpa using hx1
  rw [c43] at hl
  have hcs : ∃ v, cs.toList = [v] := by
    match hh : cs.toList, hl with
    | [v], _ => exact ⟨v, rfl⟩
  obtain ⟨v, hv⟩ := hcs
  rw [c41, hv] at a0
  have a1 : DataW.trod (fun _ => ()) Tryd.prog W 0 (fun _ => true) false m 41 [v] = some y := a0
  have hv' : ∃ z, v = .pointer (some z) := by
    cases m with
    | zero => simp [DataW.trod] at a1
    | succ m =>
      unfold DataW.trod at a1
      rw [Tryd.underlying41] at a1
      cases v with
      | pointer o =>
        cases o with
        | none =>
          have : y = (.nil, []) := (Option.some.inj a1).symm
          rw [this] at hy
          cases hy
        | some z => exact ⟨z, rfl⟩
      | _ =>
        have a2 : (none : Option (DataW Unit × List MemPlace)) = some y := a1
        cases a2
  obtain ⟨z, rfl⟩ := hv'
  refine ⟨z, ?_⟩
  rw [World.var?_cell gl h3 0, ← Array.getElem?_toList, hv]
  rfl
end Go.Proofs.Qxb6615986aDoor
