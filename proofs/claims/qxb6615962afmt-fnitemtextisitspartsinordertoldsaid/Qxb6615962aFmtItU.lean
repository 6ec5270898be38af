import Derived.Test.Qxb6615962aFmtItS
import Derived.Test.Qxb6615962aFmtItT
set_option maxRecDepth 8000
namespace Go.Proofs.Qxb6615962aFmt
open Go.ChangeShapes Go.RowKit Go.Stop Go.Deep
section
variable {H : Type} {enc : TypeId × Value → H} {w : World} {base : Nat} {sp : Nat → Bool} {held : Bool}
theorem indep22 (w w' : World) (sp' : Nat → Bool) (m : Nat) (cs : List Value) : DataW.trod enc Tryf.prog w base sp held m 22 cs = DataW.trod enc Tryf.prog w' base sp' held m 22 cs := by
  cases m with
  | zero => rfl
  | succ m =>
    unfold DataW.trod
    rw [Tryf.underlying22]
    match cs with
    | [] => rfl
    | [v] => cases v <;> rfl
    | a :: _ :: _ => cases a <;> rfl
theorem indep23 (w w' : World) (sp' : Nat → Bool) (m : Nat) (cs : List Value) : DataW.trod enc Tryf.prog w base sp held m 23 cs = DataW.trod enc Tryf.prog w' base sp' held m 23 cs := by
  cases m with
  | zero => rfl
  | succ m => simp only [DataW.trod, Tryf.underlying23, indep22 w w' sp']
/-- the months, opened -/
theorem open23 {r : Reach} {b0 : Nat} {v : Value} {d : DataW H} {ps : List MemPlace} (hv : Value.okWide Tryf.prog w r b0 23 v) (h : DataW.Trod enc Tryf.prog w base sp held 23 v d ps) :
    ∃ mo : Nat → Nat, (∀ j, mo j < 18446744073709551616) ∧ v = .agg (mv mo) ∧ ps = [] ∧ ∀ w' sp', DataW.Trod enc Tryf.prog w' base sp' held 23 v d ps := by
  obtain ⟨fuel, h⟩ := h
  simp only [Value.okWide, Tryf.underlying23] at hv
  obtain ⟨cs, rfl, _, _⟩ := hv
  have hind := fun w' sp' => indep23 (enc := enc) (base := base) (sp := sp) (held := held) w w' sp' fuel (Value.agg cs).cells.toList
  have h0 := h
  obtain ⟨xs, m, rfl, hx, hl, hxl, hall⟩ := DataW.trod_array Tryf.underlying23 h
  have hcs : (Value.agg cs).cells.toList = cs.toList := rfl
  rw [hcs, ce23] at hl
  rw [hcs, ce22] at hall
  have el : ∀ i, i < 12 → ∃ k : Nat, k < 18446744073709551616 ∧ cs.toList[i]? = some (.int .u64 (k : Int)) ∧ xs[i]? = some (.lit (.int .u64 (k : Int)), []) := fun i hi => by
    have h1 := hall i hi
    rw [Nat.mul_one] at h1
    obtain ⟨y, hy⟩ : ∃ y, xs[i]? = some y := ⟨xs[i]'(by omega), List.getElem?_eq_getElem _⟩
    rw [hy] at h1
    obtain ⟨k, h2, h3, h4⟩ := DataW.trod_int Tryf.underlying22 h1
    have hb := bounds_u64 h4
    have hk : ((k.toNat : Nat) : Int) = k := by omega
    refine ⟨k.toNat, by omega, ?_, by rw [hk, hy, h3]⟩
    rw [hk]
    have := congrArg (·[0]?) h2
    simpa [List.getElem?_take, List.getElem?_drop] using this
  obtain ⟨f, hf⟩ := choose_lt el
  refine ⟨fun j => if j < 12 then f j else 0, fun j => ?_, ?_, ?_, fun w' sp' => ⟨m + 1, by rw [← hind w' sp']; exact h0⟩⟩
  · show (if j < 12 then f j else 0) < _
    split
    · exact (hf j (by omega)).1
    · omega
  · congr 1
    apply Array.ext'
    apply List.ext_getElem?
    intro i
    by_cases hi : i < 12
    · rw [(hf i hi).2.1]
      simp [mv, hi]
    · rw [List.getElem?_eq_none (by omega), List.getElem?_eq_none (by simp [mv]; omega)]
  · have hps : ps = xs.flatMap (·.2) := congrArg Prod.snd hx
    rw [hps, List.flatMap_eq_nil_iff]
    intro y hy
    obtain ⟨i, hi⟩ := List.getElem?_of_mem hy
    have hi' : i < 12 := by
      rw [← hxl]
      exact (List.getElem?_eq_some_iff.1 hi).1
    have := (hf i hi').2.2
    rw [hi] at this
    cases this
    rfl
theorem pair_of {fuel : Nat} {cs : List Value} {x : DataW H × List MemPlace} (h : DataW.trod enc Tryf.prog w 0 (fun _ => true) held fuel 30 cs = some x) : ∃ t : Int × Int, cs = [.int .i64 t.1, .int .i64 t.2] := by
  obtain ⟨xs, m, rfl, hx, hl, hxl, hall⟩ := DataW.trod_array Tryf.underlying30 h
  rw [ce30] at hl
  rw [ce3] at hall
  obtain ⟨c0, c1, rfl⟩ : ∃ c0 c1, cs = [c0, c1] := by
    match cs, hl with
    | [c0, c1], _ => exact ⟨c0, c1, rfl⟩
  obtain ⟨y0, y1, rfl⟩ : ∃ y0 y1, xs = [y0, y1] := by
    match xs, hxl with
    | [y0, y1], _ => exact ⟨y0, y1, rfl⟩
  have h0 := hall 0 (by omega)
  have h1 := hall 1 (by omega)
  obtain ⟨k0, e0, _⟩ := DataW.trod_int Tryf.underlying3 (x := y0) (by simpa using h0)
  obtain ⟨k1, e1, _⟩ := DataW.trod_int Tryf.underlying3 (x := y1) (by simpa using h1)
  simp at e0 e1
  exact ⟨(k0, k1), by rw [e0, e1]⟩
theorem tcs_inv (ts : List (Int × Int)) (j : Nat) (v : Value) (h : (tcs ts)[j]? = some v) : ∃ i t, ts[i]? = some t ∧ ((j = i * 2 ∧ v = .int .i64 t.1) ∨ (j = i * 2 + 1 ∧ v = .int .i64 t.2)) := by
  have hj : j < ts.length * 2 := by
    rw [← tcs_len]
    exact (List.getElem?_eq_some_iff.1 h).1
  have hi : j / 2 < ts.length := by omega
  have hg := tcs_get ts (j / 2) ts[j / 2] (List.getElem?_eq_getElem hi)
  refine ⟨j / 2, ts[j / 2], List.getElem?_eq_getElem hi, ?_⟩
  rcases (by omega : j = j / 2 * 2 ∨ j = j / 2 * 2 + 1) with e | e
  · left
    refine ⟨e, ?_⟩
    have := hg.1
    rw [← e, h] at this
    exact Option.some.inj this
  · right
    refine ⟨e, ?_⟩
    have := hg.2
    rw [← e, h] at this
    exact Option.some.inj this
/-- the times, opened -/
theorem open24 {fuel : Nat} {cs : List Value} {x : DataW H × List MemPlace} (h : DataW.trod enc Tryf.prog w 0 (fun _ => true) held fuel 24 cs = some x) :
    ∃ (ao : Option Addr) (n c : Nat) (ts : List (Int × Int)), cs = [.slice ao n c] ∧ n ≤ 9223372036854775807 ∧ InT w ao n c ts := by
  rcases open_slice Tryf.underlying24 h with ⟨h0, _⟩ | ⟨a, len, cap, m, k, D, Pl, hcs, _, hl, hmax, hm, _, hel⟩
  · exact ⟨none, 0, 0, [], h0, by omega, rfl, fun _ => ⟨rfl, rfl⟩, fun a ha => by cases ha⟩
  · simp only [if_true] at hm
    subst hm
    have hx : ∀ i, i < len → ∃ t : Int × Int, w.cell? (a.add (i * 2)) = some (.int .i64 t.1) ∧ w.cell? (a.add (i * 2 + 1)) = some (.int .i64 t.2) := by
      intro i hi
      obtain ⟨cs', hc, ht⟩ := hel i (by omega)
      rw [ce30] at hc
      obtain ⟨t, rfl⟩ := pair_of ht
      obtain ⟨_, _, hcell⟩ := World.cells?_some hc
      refine ⟨t, ?_, ?_⟩
      · have := hcell 0 (by omega)
        simpa [add_add] using this
      · have := hcell 1 (by omega)
        simpa [add_add] using this
    obtain ⟨f, hf⟩ := choose_lt hx
    refine ⟨some a, len, m, (List.range len).map f, hcs, by unfold maxLen at hmax; omega, by simp, (fun h => by cases h), fun a' ha j v hv => ?_⟩
    obtain rfl : a = a' := Option.some.inj ha
    obtain ⟨i, t, ht, hor⟩ := tcs_inv _ j v hv
    have hi : i < len := by
      have := (List.getElem?_eq_some_iff.1 ht).1
      simpa using this
    have hft : f i = t := by simpa [hi] using ht
    obtain ⟨h1, h2⟩ := hf i hi
    rw [hft] at h1 h2
    rcases hor with ⟨rfl, rfl⟩ | ⟨rfl, rfl⟩
    · exact h1
    · exact h2
end
end Go.Proofs.Qxb6615962aFmt
