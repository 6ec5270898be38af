import Derived.Test.Qxb6615962aFmtItU
import Derived.Test.Qxb6615962aFmtTie
import Derived.Test.Qxb6615962aFmtCards
import Derived.ProofKit
import Derived.ChangeOld
import Derived.Below
import Derived.ShutString
import Derived.Stop.JoinedAt
import Derived.Stop.JoinedTold
import Derived.SevenToldRow
import Derived.SevenTiedAt
import Derived.Lay
namespace Go.Proofs.Qxb6615962aFmt.fnItemTextIsItsPartsInOrder
open Go.ChangeShapes Go.WideShapes Go.ChangeAt Go.RowKit Go.Kit
open Go.ChangeMaps (open_string shut_string)
open Go.Extern.Stop Go.Stop Go.Extern

theorem own : ownKnob Tryf.prog.godebug = none := by kernel_rfl
theorem laidOut : laidOutB Tryf.prog = true := by kernel_rfl
/-- an input that fits -/
def zargs : Array Value := #[.agg #[.int .u64 0, .int .u64 0, .int .u64 0, .int .u64 0, .int .u64 0, .int .u64 0, .int .u64 0, .int .u64 0, .int .u64 0, .int .u64 0, .int .u64 0, .int .u64 0], .string ⟨#[]⟩, .int .u64 0, .slice none 0 0, .int .u64 0]
set_option maxRecDepth 100000 in
theorem wit (os : Os) (H : Type) (enc : TypeId × Value → H) (F : Stop.Interp) :
    ∃ (w : World) (tape : Tape) (i : Input), w.os = os ∧ (w.forCall tape i).Shaped Tryf.checked.prog ∧ i.vars = [] ∧ Input.okWide Tryf.checked.prog (w.forCall tape i) .any w.heap.size 4 i ∧
      (OpenSpec.ofChange Rows.fnItemTextIsItsPartsInOrderSpec).preRow enc Tryf.checked.prog Tryf.f4 Rows.fnItemTextIsItsPartsInOrderRow.domain false Rows.fnItemTextIsItsPartsInOrderRow.laid (w.forCall tape i).memory i.args ∧ ({ modest := false } : Assume).holds Tryf.checked.prog (lone (Frame.enter Tryf.checked.prog 4 i.args .normal) [] (w.forCall tape i)) ∧ F.answers tape := by
  have hok : Input.okWideB Tryf.checked.prog ((World.laidAll Tryf.prog os Rows.fnItemTextIsItsPartsInOrderRow.laid).forCall (fun _ _ => 0) ⟨#[], zargs, []⟩) 4 ⟨#[], zargs, []⟩ = true := by kernel_rfl
  refine ⟨World.laidAll Tryf.prog os Rows.fnItemTextIsItsPartsInOrderRow.laid, F.over fun _ _ => 0, ⟨#[], zargs, []⟩, World.laidAll_os _ _ _, World.shaped_of_ZipB (by kernel_rfl) (by kernel_rfl), (Input.okWide_of_okWideB (base := 0) hok).1, (Input.okWide_of_okWideB hok).2, ?_, ?_, F.over_answers _⟩
  · exact OpenSpec.preRow_of_B (by rfl) 8 (by kernel_rfl) (by kernel_rfl) (by rw [MakeChecks.laidMetH_plain _ _ _ (by kernel_rfl)]; exact laidMet_laidAll zargs (by kernel_rfl) (by kernel_rfl))
  · simp only [Assume.holds]
    exact ⟨by simp, by simp, fun _ => F.over_modest Modest.zero, by simp, by simp⟩
set_option maxRecDepth 100000 in
theorem lifted (os : Os) (started : os.Started) (H : Type) (enc : TypeId × Value → H) :
    ReturnsInTold none {} Tryf.checked os 4 .any Input.okWide ((OpenSpec.ofChange Rows.fnItemTextIsItsPartsInOrderSpec).preRow enc Tryf.prog Tryf.f4 Rows.fnItemTextIsItsPartsInOrderRow.domain false Rows.fnItemTextIsItsPartsInOrderRow.laid) (fun F => ((OpenSpec.ofChange Rows.fnItemTextIsItsPartsInOrderSpec).at F).post enc Tryf.prog Tryf.f4 false true false false) (aloneAtReturn Tryf.prog) nothingAlways := by
  refine returnsInTold_of_row (C := Tryf.checked) (s := OpenSpec.ofChange Rows.fnItemTextIsItsPartsInOrderSpec) (by kernel_rfl) own started (by kernel_rfl) Tryf.func4 (wit os H enc) ?_
  intro F W base args ds gs before _ hF hval0 hW _ _ _ hL _
  have hval : ∀ (j : Nat) t v, Tryf.f4.params[j]? = some t → args[j]? = some v → Value.okWide Tryf.prog W .any base t v := hval0
  have hW' := hW
  obtain ⟨p, q, hA0, hV, rfl, hfz, hnd⟩ := hW
  have hA : DataW.TrodAll enc Tryf.prog W 0 (fun _ => true) true Tryf.f4.params.toList args.toList ds p := hA0
  rw [Tryf.params4] at hA hval
  obtain ⟨v0, vs0, d0, ds0, p0, q0, hargs, rfl, rfl, h0, r0⟩ := trodAll_cons hA
  obtain ⟨v1, vs1, d1, ds1, p1, q1, rfl, rfl, rfl, h1, r1⟩ := trodAll_cons r0
  obtain ⟨v2, vs2, d2, ds2, p2, q2, rfl, rfl, rfl, h2, r2⟩ := trodAll_cons r1
  obtain ⟨v3, vs3, d3, ds3, p3, q3, rfl, rfl, rfl, h3, r3⟩ := trodAll_cons r2
  obtain ⟨v4, vs4, d4, ds4, p4, q4, rfl, rfl, rfl, h4, r4⟩ := trodAll_cons r3
  obtain ⟨rfl, rfl, rfl⟩ := trodAll_nil r4
  obtain rfl : args = #[v0, v1, v2, v3, v4] := by cases args; simp_all
  obtain ⟨rfl, rfl⟩ := trodVars_none hV
  obtain ⟨mo, hmo, rfl, rfl, k0⟩ := open23 (hval 0 23 v0 rfl rfl) h0
  obtain ⟨s, rfl, rfl, rfl, w1⟩ := open_string Tryf.underlying9 (hval 1 9 v1 rfl rfl) h1
  obtain ⟨a2, rfl, rfl, rfl, w2⟩ := open_int Tryf.underlying22 (hval 2 22 v2 rfl rfl) h2
  obtain ⟨x3, n3, c3, rfl⟩ := okWide_slice Tryf.underlying24 (hval 3 24 v3 rfl rfl)
  obtain ⟨a4, rfl, rfl, rfl, w4⟩ := open_int Tryf.underlying22 (hval 4 22 v4 rfl rfl) h4
  have lt3 : ∀ x ∈ p3, x.block < W.heap.size := by obtain ⟨m, hm⟩ := h3; exact DataW.trod_lt m _ _ _ hm
  obtain ⟨ts, hn3, hT⟩ : ∃ ts, n3 ≤ 9223372036854775807 ∧ InT W x3 n3 c3 ts := by
    obtain ⟨m, hm⟩ := h3
    obtain ⟨ao, n, c, ts, hcs, hn, hI⟩ := open24 hm
    simp [Value.cells] at hcs
    obtain ⟨rfl, rfl, rfl⟩ := hcs
    exact ⟨ts, hn, hI⟩
  have b2 := bounds_u64 w2
  have b4 := bounds_u64 w4
  obtain ⟨wd, rfl⟩ : ∃ wd : Nat, a2 = (wd : Int) := ⟨a2.toNat, by omega⟩
  obtain ⟨x, rfl⟩ : ∃ x : Nat, a4 = (x : Int) := ⟨a4.toNat, by omega⟩
  have hE : Env F W := env_of hL hF
  clear hA0 hval0
  refine (law_main F mo hmo s (by unfold maxLen at w1; omega) wd (by omega) x3 n3 c3 hn3 ts x (by omega) W hE hT).mono fun e W' ⟨he, bel⟩ => ?_
  subst he
  exact ⟨_, rfl, _, _, _, [], _, [], hW', trodAll_mk1 (shut_bool Tryf.underlying4 _),
    (trodAll_cons_mk (k0 W' _) (trodAll_cons_mk (shut_string Tryf.underlying9 w1) (trodAll_cons_mk (shut_int Tryf.underlying22 w2)
      (trodAll_cons_mk (Below.trod laidOut (by kernel_rfl) (of_decide_eq_true (by kernel_rfl)) h3 bel lt3) (trodAll_cons_mk (shut_int Tryf.underlying22 w4) trodAll_mk0))))),
    rfl, bel.frame _, fun h => by cases h⟩

theorem stops : Tryf.pinned.checked.prog.stops = ["fmt.Sprintf"] := by kernel_rfl
theorem stopKnobs : Tryf.pinned.checked.prog.stopKnobs = [] := by kernel_rfl
theorem quiet (os : Os) : Stop.quiet Tryf.pinned.checked.prog os := by
  intro k hk
  rw [stopKnobs] at hk
  cases hk

theorem proved : Rows.FnItemTextIsItsPartsInOrderToldSaid :=
  Claim7.holds_of_told_tied_any_at .later 4 Tryf.f4 "fmt.Sprintf" [] [] _ _ _ _ _ (by kernel_rfl) rfl rfl rfl laidOut (by kernel_rfl) rfl ⟨rfl, rfl, rfl, rfl, rfl, rfl, rfl⟩ rfl rfl (by kernel_rfl) (by kernel_rfl) Tryf.func4 (by kernel_rfl)
    (of_decide_eq_true (by kernel_rfl)) (of_decide_eq_true (by kernel_rfl)) stops.symm rfl stopKnobs.symm (by kernel_rfl)
    (by kernel_rfl) (by kernel_rfl) (by kernel_rfl) (by kernel_rfl) (by kernel_rfl) (by kernel_rfl) (by kernel_rfl) (by kernel_rfl) (by kernel_rfl) rfl (by kernel_rfl) rfl rfl
    rfl rfl
    rfl (by kernel_rfl) (by kernel_rfl) (by kernel_rfl) (by decide) (by kernel_rfl) fnItemTextIsItsPartsInOrder_row_tie
    (OpenClaim.moreEntering_of (by kernel_rfl) (by kernel_rfl) (by kernel_rfl) (by kernel_rfl) (by kernel_rfl) (by kernel_rfl) (by kernel_rfl) (by kernel_rfl) (by kernel_rfl) (by kernel_rfl))
    ⟨_, WideRow.started_initial, quiet _⟩
    (fun os started _ H enc _ => lifted os started H enc)
end Go.Proofs.Qxb6615962aFmt.fnItemTextIsItsPartsInOrder
