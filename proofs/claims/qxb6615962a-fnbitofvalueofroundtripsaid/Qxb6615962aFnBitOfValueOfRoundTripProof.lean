import Derived.Test.Qxb6615962aRows
import Derived.WalkKit
import Derived.ProofKit
import Derived.OpenShut
import Derived.ShutString
import Derived.Laws.BitsAllLaws
namespace Go.Proofs.Qxb6615962a.fnBitOfValueOfRoundTrip
open Go.ChangeShapes Go.WideShapes Go.ChangeAt Go.RowKit
open Go.ChangeMaps (open_string shut_string)
set_option linter.unusedVariables false

theorem own : ownKnob Try.prog.godebug = none := by kernel_rfl

theorem and63 (a : Int) (h0 : -31 ≤ a) (h1 : a ≤ 31) : bits .and .u64 (IntKind.u64.wrap a) 63 = if 0 ≤ a then a else a + 64 := by
  rw [IntKind.wrap_u64, u64_and _ _ (by omega) (by omega) (by omega) (by omega)]
  have : (63 : Int).toNat = 63 := rfl
  rw [this, nat_mask6]
  split <;> omega
set_option maxHeartbeats 400000 in
theorem walk_lo (a0 : Int) (w : World) (h1 : a0 < -31) :
    Calls Try.prog 3 #[.int .i64 a0] w fun e w' => e = .returned (.bool true) ∧ Grown w w' := by
  go_enter Try.func3, Try.ntmps3
  go_wp2
  go_ret
  exact ⟨rfl, Grown.refl _⟩
set_option maxHeartbeats 400000 in
theorem walk_hi (a0 : Int) (w : World) (h1 : 31 < a0) :
    Calls Try.prog 3 #[.int .i64 a0] w fun e w' => e = .returned (.bool true) ∧ Grown w w' := by
  have h2 : ¬ a0 < -31 := by omega
  go_enter Try.func3, Try.ntmps3
  go_wp2
  go_ret
  exact ⟨rfl, Grown.refl _⟩
set_option maxHeartbeats 400000 in
theorem walk_nonneg (a0 : Int) (w : World) (h0 : 0 ≤ a0) (h1 : a0 ≤ 31) :
    Calls Try.prog 3 #[.int .i64 a0] w fun e w' => e = .returned (.bool true) ∧ Grown w w' := by
  have hb : bits .and .u64 a0 63 = a0 := by
    have := and63 a0 (by omega) h1
    rwa [IntKind.wrap_u64, if_pos h0, Int.emod_eq_of_lt h0 (by omega)] at this
  have t1 : ¬ a0 < -31 := by omega
  have t2 : (a0 == 32) = false := by simp; omega
  have t3 : decide (a0 < 32) = true := by simp; omega
  have t4 : decide (0 ≤ a0) = true := by simp; omega
  go_enter Try.func3, Try.ntmps3
  go_wp2
  go_ret
  exact ⟨rfl, Grown.refl _⟩
set_option maxHeartbeats 400000 in
theorem walk_neg (a0 : Int) (w : World) (h0 : a0 < 0) (h1 : -31 ≤ a0) :
    Calls Try.prog 3 #[.int .i64 a0] w fun e w' => e = .returned (.bool true) ∧ Grown w w' := by
  have hb : bits .and .u64 (IntKind.u64.wrap a0) 63 = a0 + 64 := by rw [and63 a0 (by omega) (by omega), if_neg (by omega)]
  have t1 : ¬ a0 < -31 := by omega
  have t2 : (a0 + 64 == 32) = false := by simp; omega
  have t3 : decide (a0 + 64 < 32) = false := by simp; omega
  have t4 : decide (0 ≤ a0) = false := by simp; omega
  go_enter Try.func3, Try.ntmps3
  go_wp2
  go_ret
  exact ⟨rfl, Grown.refl _⟩
theorem walk (a0 : Int) (w0 : (Lit.int .i64 a0).wf = true) (w : World) :
    Calls Try.prog 3 #[.int .i64 a0] w fun e w' => e = .returned (.bool true) ∧ Grown w w' := by
  by_cases h1 : a0 < -31
  · exact walk_lo a0 w h1
  by_cases h2 : 31 < a0
  · exact walk_hi a0 w h2
  by_cases h3 : 0 ≤ a0
  · exact walk_nonneg a0 w h3 (by omega)
  · exact walk_neg a0 w (by omega) (by omega)

set_option maxRecDepth 100000 in
theorem lifted (os : Os) (started : os.Started) (H : Type) (enc : TypeId × Value → H) :
    ReturnsInHanded {} Try.checked os 3 .any (Rows.fnBitOfValueOfRoundTripSpec.pre6 enc Try.prog Try.f3 Rows.fnBitOfValueOfRoundTripRow.domain false) (Rows.fnBitOfValueOfRoundTripSpec.post enc Try.prog Try.f3 false true false false) := by
  refine returnsInHanded_of_change (C := Try.checked) own started (by kernel_rfl) Try.func3
    (ChangeSpec.witness6 (enc := enc) (C := Try.checked) false ⟨#[], #[.int .i64 0], []⟩ 8 (by kernel_rfl) (by kernel_rfl) (by kernel_rfl) (by kernel_rfl)) ?_
  intro W base args ds gs before hval0 hW hcnd _
  have hval : ∀ (j : Nat) t v, Try.f3.params[j]? = some t → args[j]? = some v → Value.okWide Try.prog W .any base t v := hval0
  have hW' := hW
  obtain ⟨p, q, hA0, hV, rfl, hfz, hnd⟩ := hW
  have hA : DataW.TrodAll enc Try.prog W 0 (fun _ => true) true Try.f3.params.toList args.toList ds p := hA0
  rw [Try.params3] at hA hval
  obtain ⟨v0, vs0, d0, ds0, p0, q0, hargs, rfl, rfl, h0, r0⟩ := trodAll_cons hA
  obtain ⟨rfl, rfl, rfl⟩ := trodAll_nil r0
  obtain rfl : args = #[v0] := by cases args; simp_all
  obtain ⟨rfl, rfl⟩ := trodVars_none hV
  obtain ⟨a0, rfl, rfl, rfl, w0⟩ := open_int Try.underlying3 (hval 0 3 v0 rfl rfl) h0
  clear hA0 hval0
  simp only [List.append_nil] at hW'
  refine (walk a0 w0 W).mono fun e W' ⟨he, hg⟩ => ?_
  subst he
  exact ⟨_, rfl, post_of_same (pa := []) (pv := []) hW' (fun _ _ _ => (trodAll_cons_mk (shut_bool Try.underlying4 _) trodAll_mk0)) (fun sp _ => (trodAll_cons_mk (shut_int Try.underlying3 w0) trodAll_mk0)) (fun _ _ => rfl) rfl
    (hg.frame _) hg.2.1 (ok_one (by kernel_rfl) rfl (okWide_bool_mk Try.underlying4 _))⟩

theorem over : Rows.fnBitOfValueOfRoundTripRow.holds Try.pinned (OpenSpec.ofChange Rows.fnBitOfValueOfRoundTripSpec) :=
  OpenClaim.holds_of_wide 3 Try.f3 rfl rfl rfl rfl rfl rfl rfl ⟨rfl, rfl, rfl, rfl, rfl⟩ rfl rfl rfl rfl rfl (by kernel_rfl) Try.func3 (by kernel_rfl)
    (of_decide_eq_true (by kernel_rfl)) (by unfold Func.isWrapper; first | (rw [if_pos (by decide +kernel)]; kernel_rfl) | (rw [if_neg (by decide +kernel)]; exact ⟨rfl, rfl⟩))
    (fun os started H enc _ => lifted os started H enc)

theorem proved : Rows.FnBitOfValueOfRoundTripSaid :=
  over
end Go.Proofs.Qxb6615962a.fnBitOfValueOfRoundTrip
