import Derived.Test.Qxb6615986aDoorOpenA
import Derived.Test.Qxb6615986aDoorTie
import Derived.Test.Qxb6615986aDoorCards
import Derived.WalkKit
import Derived.ProofKit
import Derived.Handy
import Derived.Lay
import Derived.SevenTiedAt
namespace Go.Proofs.Qxb6615986aDoor
open Go.ChangeShapes Go.WideShapes Go.ChangeAt Go.RowKit
theorem trodAll_nine {H : Type} {enc : TypeId × Value → H} {P : Program} {w : World} {base : Nat} {sp : Nat → Bool} {held : Bool} {t0 t1 t2 t3 t4 t5 t6 t7 t8 : TypeId} {args : Array Value} {ds : List (DataW H)} {ps : List MemPlace} (h : DataW.TrodAll enc P w base sp held [t0, t1, t2, t3, t4, t5, t6, t7, t8] args.toList ds ps) :
    ∃ v0 v1 v2 v3 v4 v5 v6 v7 v8 d0 d1 d2 d3 d4 d5 d6 d7 d8 p0 p1 p2 p3 p4 p5 p6 p7 p8, args = #[v0, v1, v2, v3, v4, v5, v6, v7, v8] ∧ ds = [d0, d1, d2, d3, d4, d5, d6, d7, d8] ∧ ps = p0 ++ (p1 ++ (p2 ++ (p3 ++ (p4 ++ (p5 ++ (p6 ++ (p7 ++ (p8 ++ [])))))))) ∧
      DataW.Trod enc P w base sp held t0 v0 d0 p0 ∧ DataW.Trod enc P w base sp held t1 v1 d1 p1 ∧ DataW.Trod enc P w base sp held t2 v2 d2 p2 ∧ DataW.Trod enc P w base sp held t3 v3 d3 p3 ∧ DataW.Trod enc P w base sp held t4 v4 d4 p4 ∧ DataW.Trod enc P w base sp held t5 v5 d5 p5 ∧ DataW.Trod enc P w base sp held t6 v6 d6 p6 ∧ DataW.Trod enc P w base sp held t7 v7 d7 p7 ∧ DataW.Trod enc P w base sp held t8 v8 d8 p8 := by
  obtain ⟨v0, vs0, d0, ds0, p0, q0, hargs, rfl, rfl, h0, r0⟩ := trodAll_cons h
  obtain ⟨v1, vs1, d1, ds1, p1, q1, rfl, rfl, rfl, h1, r1⟩ := trodAll_cons r0
  obtain ⟨v2, vs2, d2, ds2, p2, q2, rfl, rfl, rfl, h2, r2⟩ := trodAll_cons r1
  obtain ⟨v3, vs3, d3, ds3, p3, q3, rfl, rfl, rfl, h3, r3⟩ := trodAll_cons r2
  obtain ⟨v4, vs4, d4, ds4, p4, q4, rfl, rfl, rfl, h4, r4⟩ := trodAll_cons r3
  obtain ⟨v5, vs5, d5, ds5, p5, q5, rfl, rfl, rfl, h5, r5⟩ := trodAll_cons r4
  obtain ⟨v6, vs6, d6, ds6, p6, q6, rfl, rfl, rfl, h6, r6⟩ := trodAll_cons r5
  obtain ⟨v7, vs7, d7, ds7, p7, q7, rfl, rfl, rfl, h7, r7⟩ := trodAll_cons r6
  obtain ⟨v8, vs8, d8, ds8, p8, q8, rfl, rfl, rfl, h8, r8⟩ := trodAll_cons r7
  obtain ⟨rfl, rfl, rfl⟩ := trodAll_nil r8
  exact ⟨v0, v1, v2, v3, v4, v5, v6, v7, v8, d0, d1, d2, d3, d4, d5, d6, d7, d8, p0, p1, p2, p3, p4, p5, p6, p7, p8, by cases args; simp_all, rfl, rfl, h0, h1, h2, h3, h4, h5, h6, h7, h8⟩
theorem own : ownKnob Tryd.prog.godebug = none := by kernel_rfl
/-- zero cells, for the witness -/
def zb (n : Nat) : Array Value := (List.replicate n (Value.int .u8 0)).toArray
set_option maxRecDepth 100000 in
theorem lifted (os : Os) (started : os.Started) (H : Type) (enc : TypeId × Value → H) :
    ReturnsInHanded {} Tryd.checked os 3 .any (fun w args => (Rows.fnQueriedBadOnlyAfterAnotherAnswerSpec.pre enc Tryd.prog Tryd.f3 [] false w args ∧ laidMetH Tryd.prog [("net/netip.z4", Rows.laid_net_netip_z4)] w) ∧ sizedMet enc Tryd.prog Tryd.f3 (OpenSpec.ofChange Rows.fnQueriedBadOnlyAfterAnotherAnswerSpec) false w args)
      (Rows.fnQueriedBadOnlyAfterAnotherAnswerSpec.post enc Tryd.prog Tryd.f3 false true false false) := by
  refine returnsInHanded_of_change_and (C := Tryd.checked) (X := fun w _ => laidMetH Tryd.prog [("net/netip.z4", Rows.laid_net_netip_z4)] w) (fun _ _ _ hh h => h.of_heap hh) own started (by kernel_rfl) Tryd.func3
    (ChangeSpec.witness_shaped (enc := enc) (C := Tryd.checked) (os := os) (X := fun w _ => laidMetH Tryd.prog [("net/netip.z4", Rows.laid_net_netip_z4)] w) false (World.laidAll Tryd.prog os [("net/netip.z4", Rows.laid_net_netip_z4)]) #[.agg (zb 20), .agg (zb 24 ++ #[.int .u16 0]), .agg (zb 24 ++ #[.int .u16 0]), .int .i64 0, .int .i64 0, .int .i64 0, .int .i64 0, .int .i64 0, .int .i64 0] 8 (World.laidAll_os _ _ _)
      (World.shaped_of_ZipB (by kernel_rfl) (by kernel_rfl)) (by kernel_rfl) (by kernel_rfl) (by kernel_rfl)
      (by rw [MakeChecks.laidMetH_plain _ _ _ (by kernel_rfl)]; exact laidMet_laidAll _ (by kernel_rfl) (by kernel_rfl))) ?_
  intro W base args ds gs before hval0 hW _ _ hL _
  have hval : ∀ (j : Nat) t v, Tryd.f3.params[j]? = some t → args[j]? = some v → Value.okWide Tryd.prog W .any base t v := hval0
  have hW' := hW
  obtain ⟨p, q, hA0, hV, rfl, _, _⟩ := hW
  have hA : DataW.TrodAll enc Tryd.prog W 0 (fun _ => true) true Tryd.f3.params.toList args.toList ds p := hA0
  rw [Tryd.params3] at hA hval
  obtain ⟨v0, v1, v2, v3, v4, v5, v6, v7, v8, d0, d1, d2, d3, d4, d5, d6, d7, d8, p0, p1, p2, p3, p4, p5, p6, p7, p8, rfl, rfl, rfl, h0, h1, h2, h3, h4, h5, h6, h7, h8⟩ := trodAll_nine hA
  obtain ⟨rfl, rfl⟩ := trodVars_none hV
  obtain ⟨s, rfl, rfl, k0⟩ := open22 (hval 0 22 v0 rfl rfl) h0
  obtain ⟨i, pi, qi, rfl, bi, rfl, k1⟩ := open26 (hval 1 26 v1 rfl rfl) h1
  obtain ⟨o, po, qo, rfl, bo, rfl, k2⟩ := open26 (hval 2 26 v2 rfl rfl) h2
  obtain ⟨nf, rfl, rfl, rfl, w3⟩ := open_int Tryd.underlying3 (hval 3 3 v3 rfl rfl) h3
  obtain ⟨ta, rfl, rfl, rfl, w4⟩ := open_int Tryd.underlying2 (hval 4 2 v4 rfl rfl) h4
  obtain ⟨tf, rfl, rfl, rfl, w5⟩ := open_int Tryd.underlying2 (hval 5 2 v5 rfl rfl) h5
  obtain ⟨tb, rfl, rfl, rfl, w6⟩ := open_int Tryd.underlying2 (hval 6 2 v6 rfl rfl) h6
  obtain ⟨u1, rfl, rfl, rfl, w7⟩ := open_int Tryd.underlying2 (hval 7 2 v7 rfl rfl) h7
  obtain ⟨u2, rfl, rfl, rfl, w8⟩ := open_int Tryd.underlying2 (hval 8 2 v8 rfl rfl) h8
  obtain ⟨z, hz⟩ := z4_of_laid (W := W) hL
  have hsz : 0 < W.heap.size := World.block_lt_of_cell? W ⟨0, 0, none⟩ hz
  simp only [List.append_nil] at hW'
  refine (law_any s i o pi po qi qo nf ta tf tb u1 u2 z W bi bo hz hsz).mono fun e W' ⟨he, hb⟩ => ?_
  subst he
  exact ⟨_, rfl, _, _, _, [], [], [], hW', trodAll_mk1 (shut_bool Tryd.underlying4 _),
    trodAll_cons_mk (k0 W' _) (trodAll_cons_mk (k1 W' _) (trodAll_cons_mk (k2 W' _) (trodAll_cons_mk (shut_int Tryd.underlying3 w3) (trodAll_cons_mk (shut_int Tryd.underlying2 w4) (trodAll_cons_mk (shut_int Tryd.underlying2 w5) (trodAll_cons_mk (shut_int Tryd.underlying2 w6) (trodAll_cons_mk (shut_int Tryd.underlying2 w7) (trodAll_mk1 (shut_int Tryd.underlying2 w8))))))))), rfl, hb.frame _, fun h => by cases h⟩
theorem holds : Rows.FnQueriedBadOnlyAfterAnotherAnswerSaid :=
  OpenClaim.holds_of_wide 3 Tryd.f3 rfl rfl rfl rfl rfl rfl rfl ⟨rfl, rfl, rfl, rfl, rfl⟩ rfl rfl rfl rfl rfl (by kernel_rfl) Tryd.func3 (by kernel_rfl)
    (of_decide_eq_true (by kernel_rfl)) (by unfold Func.isWrapper; first | (rw [if_pos (by decide +kernel)]; kernel_rfl) | (rw [if_neg (by decide +kernel)]; exact ⟨rfl, rfl⟩))
    (fun os started H enc _ => lifted os started H enc)
theorem fnQueriedBadOnlyAfterAnotherAnswer.proved : Rows.FnQueriedBadOnlyAfterAnotherAnswerCardSaid :=
  Claim7.holds_tied_plain_at .later [] [.called] true (true, "12baa321adaa37e4336a8f6ced9e0a61eeea8f6844a002862ab322e03e633513") false holds (fun _ h => by cases h) (by kernel_rfl) (fun _ h => by cases h) fnQueriedBadOnlyAfterAnotherAnswer_row_tie rfl ⟨rfl, rfl⟩ (by kernel_rfl) rfl
    (fun f fn hf hfn => by
      obtain rfl : f = 3 := Option.some.inj ((show Tryd.prog.funcNamed "example.com/xorweave/xorweave/zzlaws_root_b1.FnQueriedBadOnlyAfterAnotherAnswer" = some 3 by kernel_rfl).symm.trans hf) |>.symm
      obtain rfl : fn = Tryd.f3 := (Option.some.inj (Tryd.func3.symm.trans hfn)).symm
      exact ⟨by kernel_rfl, fun j t ht => by
        rw [Tryd.params3] at ht
        have hm : t ∈ [22, 26, 26, 3, 2, 2, 2, 2, 2] := by simpa using Array.mem_of_getElem? ht
        have hall : ([22, 26, 26, 3, 2, 2, 2, 2, 2].all fun u => !Tryd.prog.wantsStandIn u) = true := by kernel_rfl
        exact (show Tryd.prog.wantsStandIn t = false by simpa using List.all_eq_true.1 hall t hm)⟩)
    (by kernel_rfl)
end Go.Proofs.Qxb6615986aDoor
