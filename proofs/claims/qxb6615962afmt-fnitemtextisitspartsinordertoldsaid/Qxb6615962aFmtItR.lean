import Derived.RangeFuncNested
import Derived.RangeFuncBound
import Derived.RangeFuncCalls
import Derived.RangeFuncLeaves
import Derived.RangeFuncBox
namespace Go.Proofs.Qxb6615962aFmt
open Go.RowKit

/-- an iterator that is a method's value: its receiver comes ahead of yield; whatever the rounds do, all of xs come -/
def SeqB {α : Type} (F : Fence) (n : Nat) (P : Program) (g : Nat) (fst : Array Value) (encs : α → Array Value) (Kp : World → World → Prop) (xs : List α) (w : World) : Prop :=
  ∀ (l : Nat) (J : List α → World → Prop) (W : World), Below w.heap.size w W → AbidesFrom W.heap.size J →
    (∀ pre x W1, J pre W1 → pre ++ [x] <+: xs → YieldAt F (n - 1) P l (encs x) W1 fun e W' => e = .returned (.bool true) ∧ J (pre ++ [x]) W' ∧ Kp W1 W') →
    J [] W → CallsIn F n P g (fst ++ #[.func (.yield l) #[] #[]]) W fun e W' => (∃ v, e = .returned v) ∧ J xs W'

/-- the loop over such an iterator, its body left at its end alone -/
theorem rangeB {F : Fence} {n : Nat} {P : Program} {α : Type} {g : Operand} {ps : Array Tmp} {assign body : Code} {Q : Exit → Act → World → Prop} {a : Act} {w : World}
    (hro : F.round = none) (h1 : 1 ≤ n) {gf : Nat} {fst : Array Value} (hg : a.eval g = .func (.func gf) fst #[]) (hFg : F.fn gf) (eg : ∀ args w, (callFunc gf args).run P w = .ok (.enter gf args) w)
    {encs : α → Array Value} {Kp : World → World → Prop} {xs : List α} (hseq : SeqB F (n - 1) P gf fst encs Kp xs w)
    (hKt : ∀ {A B C : World}, Kp A B → Kp B C → Kp A C) (hKb : ∀ (W : World) (l : Nat) (o o' : Obj), w.heap.size ≤ l → W.heap[l]? = some o → o.isCells = false → Kp W (W.putObj l o')) (hps : ∀ x, (encs x).size = ps.size)
    (I : List α → World → Prop) (hI : OwnFrom w.heap.size I) (h0 : I [] w) (a₁ : α → Act)
    (hassign : ∀ (l : Nat) (x : α) (W : World) (K : Act → World → Prop), K (a₁ x) W →
      assign.wpIn (F.inRound l) (n - 1 - 1) P (Exit.then K (fun _ _ _ => False)) { tmps := (ps.zip (encs x)).foldl (fun t (p, v) => t.setIfInBounds p v) a.tmps, defers := [] } W)
    (hbody : ∀ (l : Nat) (pre : List α) (x : α) (W : World), I pre W → pre ++ [x] <+: xs → body.wpIn (F.inRound l) (n - 1 - 1) P (ownPostG w.heap.size Kp I (fun _ _ _ => False) (pre ++ [x]) W) (a₁ x) W)
    (hdone : ∀ (D : Nat) (W : World), w.heap.size ≤ D → I xs W → W.heap[D]? = some (.deferred (some [])) → Q .normal { a with defers := { target := .collected D, args := #[] } :: a.defers } W) :
    (Code.rangeFunc g ps assign body).wpIn F n P Q a w := by
  refine wpIn_rangeFunc fun fn hfn => ?_
  rw [hro]
  obtain ⟨R, hR⟩ : ∃ R : LoopState → Loop, R = fun st => { state := st, pending := none, fn, tmps := a.tmps, params := ps, assign, body, defers := w.heap.size } := ⟨_, rfl⟩
  obtain ⟨V, hV⟩ : ∃ V, V = (w.alloc (.deferred (some []))).alloc (.loop (R .ready)) := ⟨_, rfl⟩
  have vs : V.heap.size = w.heap.size + 1 + 1 := by rw [hV]; simp
  have vl : V.heap[w.heap.size + 1]? = some (.loop (R .ready)) := by
    rw [hV]; have := World.alloc_heap_new (w.alloc (.deferred (some []))) (.loop (R .ready)); rwa [World.size_alloc] at this
  have vd : V.heap[w.heap.size]? = some (.deferred (some [])) := by
    rw [hV]; exact (Below.heap_alloc _ _ _ (by simp)).trans (World.alloc_heap_new w _)
  have vI : I [] V := by rw [hV]; exact hI.alloc _ (hI.alloc _ h0)
  have vb : Below w.heap.size w V := by rw [hV]; exact ((Below.refl _ w).alloc (Nat.le_refl _) _).alloc (by simp) _
  -- what holds between two rounds
  let J : List α → World → Prop := fun pre W => I pre W ∧ W.heap[w.heap.size + 1]? = some (.loop (R .ready)) ∧ W.heap[w.heap.size]? = some (.deferred (some []))
  refine ⟨w.heap.size + 1, [{ target := .collected w.heap.size, args := #[] }], V, { target := .fn (.func gf) #[], args := fst ++ #[.func (.yield (w.heap.size + 1)) #[] #[]] }, V, gf, fst ++ #[.func (.yield (w.heap.size + 1)) #[] #[]], V, ?_, ?_, ?_, ?_, fun _ => h1, ?_⟩
  · rw [hV, hR]; exact run_enterLoop_outer _ _ _ _ _
  · simp only [resolve, hg]
    simp [go_sem]
  · intro f' hf'; simp [Target.leads] at hf'; subst hf'; exact hFg
  · simp [invoke, go_sem, eg]
  refine (hseq (w.heap.size + 1) J V vb ?_ ?_ ⟨vI, vl, vd⟩).mono ?_
  · intro s A B row hs hgr hr
    refine ⟨hI s A B row hs.1 hgr (fun r e => ?_), (grownBy_keeps hgr (fun r e => (hr r e).2) hs.2.1 rfl).trans hs.2.1, (grownBy_keeps hgr (fun r e => (hr r e).2) hs.2.2 rfl).trans hs.2.2⟩
    obtain ⟨hb, o, ho, hw⟩ := hr r e
    exact ⟨by omega, o, ho, Obj.not_cells_of_walk hw⟩
  · rintro pre x W ⟨hi, hl, hd⟩ hpre
    have hlt : w.heap.size + 1 < W.heap.size := (Array.getElem?_eq_some_iff.1 hl).1
    have hy := run_yield (P := P) (args := encs x) hl (by rw [hR]; exact hps x)
    rw [hR] at hy
    refine ⟨fn, _, assign, body, hy, roundIn_of_wpIn hfn (hassign _ x W _ ⟨_, run_beginRound hl (by rw [hR]), ?_⟩)⟩
    have e2 : ({ R .ready with state := .busy } : Loop) = R .busy := by rw [hR]
    rw [e2]
    have hl2 : (W.putObj (w.heap.size + 1) (.loop (R .busy))).heap[w.heap.size + 1]? = some (.loop (R .busy)) := World.putObj_heap_same hlt
    have hd2 : (W.putObj (w.heap.size + 1) (.loop (R .busy))).heap[w.heap.size]? = some (.deferred (some [])) := (World.putObj_heap_other (by omega)).trans hd
    have hk2 : Kp W (W.putObj (w.heap.size + 1) (.loop (R .busy))) := hKb _ _ _ _ (by omega) hl rfl
    refine wpIn_mono (hbody _ pre x _ (hI.putObj _ hi (by omega) hl rfl) hpre) ?_
    intro e a3 W3 hp
    cases e with
    | normal =>
      obtain ⟨hkf, hkp, hi3⟩ := hp
      have hl3 := hkf.same _ _ (by omega) hl2 rfl
      have hd3 := hkf.same _ _ (Nat.le_refl _) hd2 rfl
      have hr := run_endRound (P := P) none hl3
      have e3 : ({ R .busy with state := if (none : Option Code).isNone = true then LoopState.ready else LoopState.done, pending := none } : Loop) = R .ready := by rw [hR]; rfl
      rw [e3] at hr
      exact ⟨_, _, hr, rfl, ⟨hI.putObj _ hi3 (by omega) hl3 rfl, World.putObj_heap_same (Array.getElem?_eq_some_iff.1 hl3).1, (World.putObj_heap_other (by omega)).trans hd3⟩, hKt (hKt hk2 hkp) (hKb _ _ _ _ (by omega) hl3 rfl)⟩
    | ret => exact hp.2.elim
    | exit id => exact hp.2.elim
    | goto t => exact hp.2.elim
    | panic ch => exact hp.elim
    | outgrown => exact hp.elim
  · rintro e W2 ⟨⟨v, rfl⟩, hi, hl, hd⟩
    have hr := run_endLoop (P := P) hl (by rw [hR]; simp)
    have e4 : (R .ready).pending = none := by rw [hR]
    rw [e4] at hr
    exact ⟨none, _, hr, hdone _ _ (Nat.le_refl _) (hI.putObj _ hi (by omega) hl rfl) ((World.putObj_heap_other (by omega)).trans hd)⟩
end Go.Proofs.Qxb6615962aFmt
