import Derived.Test.Qxb6615962aFmtItQ
import Derived.Test.Qxb6615962aFmtRows
import Derived.Lib.LaidTab
import Derived.Lib.LaidU8
import Derived.SliceStrings
import Derived.OpenShut
import Derived.Deep.Slices
import Derived.MakeChecks
set_option maxRecDepth 8000
namespace Go.Proofs.Qxb6615962aFmt
open Go.ChangeShapes Go.RowKit Go.Stop
theorem g64 : Tryf.prog.globalNamed "math/bits.deBruijn64tab" = some 0 := by kernel_rfl
theorem gDays : Tryf.prog.globalNamed "time.longDayNames" = some 1 := by kernel_rfl
theorem gPow : Tryf.prog.globalNamed "internal/strconv.uint64pow10" = some 2 := by kernel_rfl
theorem y64 : (Tryf.prog.globals[0]?).map (·.type) = some 87 := by kernel_rfl
theorem yDays : (Tryf.prog.globals[1]?).map (·.type) = some 65 := by kernel_rfl
theorem yPow : (Tryf.prog.globals[2]?).map (·.type) = some 96 := by kernel_rfl
theorem ce5 : Tryf.prog.cellsOf 5 = 1 := by kernel_rfl
theorem ce9 : Tryf.prog.cellsOf 9 = 1 := by kernel_rfl
theorem ce22 : Tryf.prog.cellsOf 22 = 1 := by kernel_rfl
theorem ce3 : Tryf.prog.cellsOf 3 = 1 := by kernel_rfl
theorem ce30 : Tryf.prog.cellsOf 30 = 2 := by kernel_rfl
theorem ce23 : Tryf.prog.cellsOf 23 = 12 := by kernel_rfl
theorem ce87 : Tryf.prog.cellsOf 87 = 64 := by kernel_rfl
theorem ce96 : Tryf.prog.cellsOf 96 = 20 := by kernel_rfl
theorem tab_of {W : World} {name : String} {g : Nat} {t e : TypeId} {n : Nat} {k : IntKind} {zs : List Int} (hg : Tryf.prog.globalNamed name = some g) (hty : (Tryf.prog.globals[g]?).map (·.type) = some t) (ht : Tryf.prog.underlying t = some (.array n e)) (he : Tryf.prog.underlying e = some (.int k)) (hce : Tryf.prog.cellsOf e = 1) (hct : Tryf.prog.cellsOf t = n)
    (h : Lib.VarReads Tryf.prog W name (Lib.tabData k zs)) : Lib.TabIs Tryf.prog W name k zs := by
  obtain ⟨g', t', cs, fuel, p, hg', ht', hvar, hd⟩ := h
  obtain rfl := Option.some.inj (hg.symm.trans hg')
  obtain rfl := Option.some.inj (hty.symm.trans ht')
  unfold Lib.TabIs
  rw [hvar, ← Lib.cells_of_tab ht he hce hct hd]
theorem spot_none {w : World} {b off : Nat} {spot : Option Nat} {v : Value} (h : w.cell? ⟨b, off, spot⟩ = some v) : spot = none := by
  cases spot with
  | none => rfl
  | some s =>
    exfalso
    unfold World.cell? at h
    split at h <;> simp at h
theorem seven_of {α : Type} {xs : List α} (h : xs.length = 7) : ∃ a b c d e f g, xs = [a, b, c, d, e, f, g] := by
  match xs, h with
  | [a, b, c, d, e, f, g], _ => exact ⟨a, b, c, d, e, f, g, rfl⟩
theorem ba_of {s : ByteArray} {l : List UInt8} (h : l = s.data.toList) : s = ⟨l.toArray⟩ := by
  apply ByteArray.ext
  rw [h]
theorem days_of {W : World} (h : Lib.VarReads Tryf.prog W "time.longDayNames" Rows.laid_time_longDayNames) : Days W := by
  obtain ⟨g', t', cs, fuel, p, hg', ht', hvar, hd⟩ := h
  obtain rfl := Option.some.inj (gDays.symm.trans hg')
  obtain rfl := Option.some.inj (yDays.symm.trans ht')
  rcases ChangeShapes.open_strings Tryf.underlying65 Tryf.underlying9 ce9 hd with ⟨_, hx⟩ | ⟨a, len, cap, ss, hcs, _, hl, _, hlen, hx, hcell, _⟩
  · cases hx
  have e0 := congrArg Prod.fst hx
  simp only [Rows.laid_time_longDayNames, DataW.slice.injEq] at e0
  obtain ⟨eT, eD⟩ := e0
  have hdrop : ss.drop len = [] := by
    have := congrArg List.length eD
    apply List.eq_nil_of_length_eq_zero
    simpa [strs] using this.symm
  have htl : (ss.take len).length = 7 := by
    have := congrArg List.length eT
    simpa [strs] using this.symm
  have hss : ss.take len = ss := by
    have := List.take_append_drop len ss
    rw [hdrop, List.append_nil] at this
    exact this
  rw [hss] at eT htl
  have hcap : cap = 7 := by simpa [htl] using hlen.symm
  have hl7 : len = 7 := by
    have h1 : (ss.drop len).length = 0 := by rw [hdrop]; rfl
    rw [List.length_drop] at h1
    omega
  subst hl7
  obtain ⟨s0, s1, s2, s3, s4, s5, s6, rfl⟩ := seven_of htl
  simp only [strs, List.map_cons, List.map_nil, List.cons.injEq, DataW.lit.injEq, Lit.string.injEq, and_true] at eT
  obtain ⟨q0, q1, q2, q3, q4, q5, q6⟩ := eT
  obtain ⟨b, o, sp⟩ := a
  obtain rfl := spot_none (by simpa [Addr.add] using hcell 0 (by simp))
  refine ⟨b, o, cap, ?_, by omega, fun j hj => ?_⟩
  · rw [World.var?_cell gDays hvar 0, ← Array.getElem?_toList, hcs]
    rfl
  · have hc := hcell j (by simpa using hj)
    rw [Addr.add_lit] at hc
    rw [hc]
    rcases (by omega : j = 0 ∨ j = 1 ∨ j = 2 ∨ j = 3 ∨ j = 4 ∨ j = 5 ∨ j = 6) with rfl | rfl | rfl | rfl | rfl | rfl | rfl
    · exact congrArg (fun s => some (Value.string s)) (ba_of q0)
    · exact congrArg (fun s => some (Value.string s)) (ba_of q1)
    · exact congrArg (fun s => some (Value.string s)) (ba_of q2)
    · exact congrArg (fun s => some (Value.string s)) (ba_of q3)
    · exact congrArg (fun s => some (Value.string s)) (ba_of q4)
    · exact congrArg (fun s => some (Value.string s)) (ba_of q5)
    · exact congrArg (fun s => some (Value.string s)) (ba_of q6)
theorem tab64_len : (Lib.deBruijn64tab.map fun (n : Nat) => (n : Int)).length = 64 := by decide
theorem env_of {F : Interp} {W : World} (hL : laidMetH Tryf.prog Rows.fnItemTextIsItsPartsInOrderRow.laid W) (hF : F.told.answers W.tape) : Env F W := by
  have hM : laidMet Tryf.prog Rows.fnItemTextIsItsPartsInOrderRow.laid W := by
    rw [← MakeChecks.laidMetH_plain _ _ _ (by kernel_rfl)]
    exact hL
  have r64 : Lib.VarReads Tryf.prog W "math/bits.deBruijn64tab" Rows.laid_math_bits_deBruijn64tab := Lib.laidMet.reads hM (.tail _ (.head _))
  have rPow : Lib.VarReads Tryf.prog W "internal/strconv.uint64pow10" Rows.laid_internal_strconv_uint64pow10 := Lib.laidMet.reads hM (.tail _ (.tail _ (.head _)))
  have rDays : Lib.VarReads Tryf.prog W "time.longDayNames" Rows.laid_time_longDayNames := Lib.laidMet.reads hM (.tail _ (.tail _ (.tail _ (.head _))))
  refine ⟨?_, ?_, days_of rDays, hF⟩
  · have ht : Lib.TabIs Tryf.prog W "math/bits.deBruijn64tab" .u8 (Lib.deBruijn64tab.map fun (n : Nat) => (n : Int)) := tab_of g64 y64 Tryf.underlying87 Tryf.underlying5 ce5 ce87 r64
    intro j hj
    rw [ht.cell g64 j (by rw [tab64_len]; exact hj)]
    simp [List.getD]
    cases h : Lib.deBruijn64tab[j]? <;> simp
  · exact tab_of gPow yPow Tryf.underlying96 Tryf.underlying22 ce22 ce96 rPow
end Go.Proofs.Qxb6615962aFmt
