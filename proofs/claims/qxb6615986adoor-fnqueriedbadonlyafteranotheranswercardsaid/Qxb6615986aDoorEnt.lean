import Derived.Test.Qxb6615986aDoorStatus
import Derived.Test.Qxb6615986aDoorLocks
import Derived.Conc.MuLone
set_option linter.unusedSimpArgs false
namespace Go.Proofs.Qxb6615986aDoor
open Go.RowKit Go.MuLone
attribute [-go_sem] loadVar storeVar Instr.build
attribute [-simp] Tryd.zeroValue49 Tryd.zeroValue33
attribute [local go_sem] lvs svs bds idAt_drew idAt_alloc hasId_self hasId_app idAt_setCell idAt_setCells cell_setCells frozen_setCells roomAt_drew roomAt_alloc hasRoom_cells idv_size

theorem eqp_d (d : Nat) (z : Addr) (W : World) : (Op.equalIn (d + 1) 41 (.pointer (some z)) (.pointer (some z))).run Tryd.prog W = .ok true W := by
  simp only [Op.equalIn, Sem.run_bind, run_underlying Tryd.underlying41, Result.andThen_ok]
  simp [sameAddr]
theorem eqp (z : Addr) (W : World) : (Op.equalIn 9997 41 (.pointer (some z)) (.pointer (some z))).run Tryd.prog W = .ok true W := eqp_d 9996 z W
theorem eq47 (L L' q q' : Int) (z : Addr) (W : World) : (Op.equalIn 10000 47 (.agg #[.int .u64 0, .int .u64 L, .pointer (some z), .int .u16 q]) (.agg #[.int .u64 0, .int .u64 L', .pointer (some z), .int .u16 q'])).run Tryd.prog W = .ok (L == L' && q == q') W := by
  have := eqp z W
  by_cases h1 : L = L' <;> by_cases h2 : q = q' <;> simp [go_sem, this, h1, h2]

/-- of the blocks of before, only those of L may have been written -/
structure Keep (L : List Nat) (w w' : World) : Prop where
  os : w'.os = w.os
  tape : w'.tape = w.tape
  output : w'.output = w.output
  size : w.heap.size ≤ w'.heap.size
  block : ∀ k, k < w.heap.size → k ∉ L → w'.heap[k]? = w.heap[k]?
theorem Keep.refl (L : List Nat) (w : World) : Keep L w w := ⟨rfl, rfl, rfl, Nat.le_refl _, fun _ _ _ => rfl⟩
theorem Keep.trans {L : List Nat} {a b c : World} (h : Keep L a b) (k : Keep L b c) : Keep L a c :=
  ⟨k.os.trans h.os, k.tape.trans h.tape, k.output.trans h.output, Nat.le_trans h.size k.size, fun i hi hn => (k.block i (Nat.lt_of_lt_of_le hi h.size) hn).trans (h.block i hi hn)⟩
theorem Keep.ofBelow {L : List Nat} {w w' : World} (h : Below w.heap.size w w') : Keep L w w' := ⟨h.os, h.tape, h.output, h.size, fun k hk _ => h.block k hk⟩
theorem Keep.set {L : List Nat} (w : World) (a : Addr) (v : Value) (ha : a.block ∈ L) : Keep L w (w.setCell a v) :=
  ⟨rfl, rfl, rfl, by simp [World.setCell], fun k _ hn => Below.heap_setCell _ _ _ _ (fun e => hn (e ▸ ha))⟩
theorem Keep.below {L : List Nat} {B : Nat} {w w' : World} (h : Keep L w w') (hB : B ≤ w.heap.size) (hL : ∀ k ∈ L, B ≤ k) : Below B w w' :=
  ⟨h.os, h.tape, h.output, h.size, fun k hk => h.block k (by omega) (fun e => by have := hL k e; omega)⟩

/-- the table's facts: a store elsewhere -/
theorem Tab.set_other {w : World} {T BS BK : Nat} {s : ID20} {m la : Int} {sl : Value} (h : Tab w T BS BK s m la sl) (a : Addr) (v : Value) (h1 : a.block ≠ T) (h2 : a.block ≠ BS) (h3 : a.block ≠ BK) : Tab (w.setCell a v) T BS BK s m la sl := by
  have c : ∀ b o, a.block ≠ b → (w.setCell a v).cell? ⟨b, o, none⟩ = w.cell? ⟨b, o, none⟩ := fun b o hh => World.cell?_of_block (Below.heap_setCell _ _ _ _ (fun e => hh e.symm))
  have f : ∀ x, (w.setCell a v).frozen? x = w.frozen? x := fun x => by simp
  have z : (w.setCell a v).heap.size = w.heap.size := by simp [World.setCell]
  constructor
  · rw [idAt_of (fun j _ => c T j h1)]; exact h.id
  · rw [c _ _ h1]; exact h.mu
  · rw [c _ _ h1]; exact h.bs
  · rw [c _ _ h1]; exact h.a0
  · rw [c _ _ h1]; exact h.a1
  · rw [c _ _ h1]; exact h.a2
  · rw [c _ _ h2]; exact h.bk
  · rw [c _ _ h3]; exact h.en
  · rw [c _ _ h3]; exact h.k1
  · rw [c _ _ h3]; exact h.k2
  · rw [c _ _ h3]; exact h.k3
  · intro i; rw [f]; exact h.fT i
  · intro i; rw [f]; exact h.fK i
  · exact h.dTS
  · exact h.dTK
  · exact h.dSK
  · rw [z]; exact h.lT
  · rw [z]; exact h.lS
  · rw [z]; exact h.lK
theorem Tab.set_mu {w : World} {T BS BK : Nat} {s : ID20} {m la : Int} {sl : Value} (h : Tab w T BS BK s m la sl) (m' : Int) : Tab (w.setCell ⟨T, 20, none⟩ (.int .i32 m')) T BS BK s m' la sl := by
  have c : ∀ b o, T ≠ b → (w.setCell ⟨T, 20, none⟩ (.int .i32 m')).cell? ⟨b, o, none⟩ = w.cell? ⟨b, o, none⟩ := fun b o hh => World.cell?_of_block (Below.heap_setCell _ _ _ _ (fun e => hh e.symm))
  have d : ∀ o, 20 ≠ o → (w.setCell ⟨T, 20, none⟩ (.int .i32 m')).cell? ⟨T, o, none⟩ = w.cell? ⟨T, o, none⟩ := fun o hh => World.cell?_setCell_other _ _ _ _ (by simp only [ne_eq, Addr.mk.injEq, not_and]; exact fun _ e => absurd e hh)
  have f : ∀ x, (w.setCell ⟨T, 20, none⟩ (.int .i32 m')).frozen? x = w.frozen? x := fun x => by simp
  have z : (w.setCell ⟨T, 20, none⟩ (.int .i32 m')).heap.size = w.heap.size := by simp [World.setCell]
  constructor
  · rw [idAt_setCell, if_neg (by simp)]; exact h.id
  · exact World.cell?_setCell_same _ _ _ h.mu
  · rw [d _ (by omega)]; exact h.bs
  · rw [d _ (by omega)]; exact h.a0
  · rw [d _ (by omega)]; exact h.a1
  · rw [d _ (by omega)]; exact h.a2
  · rw [c _ _ h.dTS]; exact h.bk
  · rw [c _ _ h.dTK]; exact h.en
  · rw [c _ _ h.dTK]; exact h.k1
  · rw [c _ _ h.dTK]; exact h.k2
  · rw [c _ _ h.dTK]; exact h.k3
  · intro i; rw [f]; exact h.fT i
  · intro i; rw [f]; exact h.fK i
  · exact h.dTS
  · exact h.dTK
  · exact h.dSK
  · rw [z]; exact h.lT
  · rw [z]; exact h.lS
  · rw [z]; exact h.lK
theorem Ent.below {w w' : World} {E : Nat} {A : ID20} {L : Int} {z : Addr} {q lr lq f lf : Int} (h : Ent w E A L z q lr lq f lf) {B : Nat} (hb : Below B w w') (hB : w.heap.size ≤ B) : Ent w' E A L z q lr lq f lf := by
  have h1 : ∀ o, w'.cell? ⟨E, o, none⟩ = w.cell? ⟨E, o, none⟩ := fun o => hb.cell (p := ⟨E, o, none⟩) (by have := h.lt; show E < B; omega)
  have h2 : ∀ o, w'.frozen? ⟨E, o, none⟩ = w.frozen? ⟨E, o, none⟩ := fun o => hb.frozen (p := ⟨E, o, none⟩) (by have := h.lt; show E < B; omega)
  have hz := hb.size
  have hl := h.lt
  constructor
  · rw [idAt_of (fun j _ => h1 j)]; exact h.id
  · rw [h1]; exact h.c20
  · rw [h1]; exact h.c21
  · rw [h1]; exact h.c22
  · rw [h1]; exact h.c23
  · rw [h1]; exact h.c24
  · rw [h1]; exact h.c25
  · rw [h1]; exact h.c26
  · rw [h1]; exact h.c27
  · rw [h1]; exact h.c28
  · rw [h1]; exact h.c29
  · rw [h1]; exact h.c30
  · rw [h1]; exact h.c31
  · rw [h1]; exact h.c32
  · rw [h1]; exact h.c33
  · rw [h1]; exact h.c34
  · intro i; rw [h2]; exact h.fz i
  · omega
  · exact h.br
  · exact h.bq
theorem Ent.set_other {w : World} {E : Nat} {A : ID20} {L : Int} {z : Addr} {q lr lq f lf : Int} (h : Ent w E A L z q lr lq f lf) (a : Addr) (v : Value) (hne : a.block ≠ E) : Ent (w.setCell a v) E A L z q lr lq f lf := by
  have h1 : ∀ o, (w.setCell a v).cell? ⟨E, o, none⟩ = w.cell? ⟨E, o, none⟩ := fun o => World.cell?_of_block (Below.heap_setCell _ _ _ _ (fun e => hne e.symm))
  have h2 : ∀ o, (w.setCell a v).frozen? ⟨E, o, none⟩ = w.frozen? ⟨E, o, none⟩ := fun o => by simp
  have hl := h.lt
  constructor
  · rw [idAt_of (fun j _ => h1 j)]; exact h.id
  · rw [h1]; exact h.c20
  · rw [h1]; exact h.c21
  · rw [h1]; exact h.c22
  · rw [h1]; exact h.c23
  · rw [h1]; exact h.c24
  · rw [h1]; exact h.c25
  · rw [h1]; exact h.c26
  · rw [h1]; exact h.c27
  · rw [h1]; exact h.c28
  · rw [h1]; exact h.c29
  · rw [h1]; exact h.c30
  · rw [h1]; exact h.c31
  · rw [h1]; exact h.c32
  · rw [h1]; exact h.c33
  · rw [h1]; exact h.c34
  · intro i; rw [h2]; exact h.fz i
  · simpa [World.setCell] using hl
  · exact h.br
  · exact h.bq
theorem Ent.drew {w : World} {E : Nat} {A : ID20} {L : Int} {z : Addr} {q lr lq f lf : Int} (h : Ent w E A L z q lr lq f lf) : Ent w.drew E A L z q lr lq f lf := h.below (Below.refl w.heap.size w).drew (Nat.le_refl _)
theorem Tab.drew {w : World} {T BS BK : Nat} {s : ID20} {m la : Int} {sl : Value} (h : Tab w T BS BK s m la sl) : Tab w.drew T BS BK s m la sl := h.below (Below.refl w.heap.size w).drew (Nat.le_refl _)
theorem cset {w : World} {b o o' : Nat} {v u : Value} (h : w.cell? ⟨b, o, none⟩ = some u) : (w.setCell ⟨b, o', none⟩ v).cell? ⟨b, o, none⟩ = some (if o' = o then v else u) := by
  by_cases e : o' = o
  · subst e
    rw [if_pos rfl]
    exact World.cell?_setCell_same _ _ _ h
  · rw [if_neg e, World.cell?_setCell_other _ _ _ _ (by simp only [ne_eq, Addr.mk.injEq, not_and]; exact fun _ e' => absurd e' e), h]
theorem Ent.set_fail {w : World} {E : Nat} {A : ID20} {L : Int} {z : Addr} {q lr lq f lf : Int} (h : Ent w E A L z q lr lq f lf) (f' lf' : Int) : Ent ((((w.setCell ⟨E, 30, none⟩ (.int .i64 f')).setCell ⟨E, 31, none⟩ (.int .u64 (lf' % 1000000000))).setCell ⟨E, 32, none⟩ (.int .i64 (lf' / 1000000000))).setCell ⟨E, 33, none⟩ (.pointer none)) E A L z q lr lq f' lf' := by
  constructor
  · simp only [idAt_setCell]
    simpa using h.id
  · exact (cset (cset (cset (cset h.c20))))
  · exact (cset (cset (cset (cset h.c21))))
  · exact (cset (cset (cset (cset h.c22))))
  · exact (cset (cset (cset (cset h.c23))))
  · exact (cset (cset (cset (cset h.c24))))
  · exact (cset (cset (cset (cset h.c25))))
  · exact (cset (cset (cset (cset h.c26))))
  · exact (cset (cset (cset (cset h.c27))))
  · exact (cset (cset (cset (cset h.c28))))
  · exact (cset (cset (cset (cset h.c29))))
  · exact (cset (cset (cset (cset h.c30))))
  · exact (cset (cset (cset (cset h.c31))))
  · exact (cset (cset (cset (cset h.c32))))
  · exact (cset (cset (cset (cset h.c33))))
  · obtain ⟨x, hx⟩ := h.c34
    exact ⟨_, (cset (cset (cset (cset hx))))⟩
  · intro i; simpa using h.fz i
  · simpa [World.setCell] using h.lt
  · exact h.br
  · exact h.bq
theorem Ent.set_query {w : World} {E : Nat} {A : ID20} {L : Int} {z : Addr} {q lr lq f lf : Int} (h : Ent w E A L z q lr lq f lf) (lq' : Int) (hq : 0 ≤ lq' ∧ lq' ≤ 4611686018427387904) : Ent (((w.setCell ⟨E, 27, none⟩ (.int .u64 (lq' % 1000000000))).setCell ⟨E, 28, none⟩ (.int .i64 (lq' / 1000000000))).setCell ⟨E, 29, none⟩ (.pointer none)) E A L z q lr lq' f lf := by
  constructor
  · simp only [idAt_setCell]
    simpa using h.id
  · exact (cset (cset (cset h.c20)))
  · exact (cset (cset (cset h.c21)))
  · exact (cset (cset (cset h.c22)))
  · exact (cset (cset (cset h.c23)))
  · exact (cset (cset (cset h.c24)))
  · exact (cset (cset (cset h.c25)))
  · exact (cset (cset (cset h.c26)))
  · exact (cset (cset (cset h.c27)))
  · exact (cset (cset (cset h.c28)))
  · exact (cset (cset (cset h.c29)))
  · exact (cset (cset (cset h.c30)))
  · exact (cset (cset (cset h.c31)))
  · exact (cset (cset (cset h.c32)))
  · exact (cset (cset (cset h.c33)))
  · obtain ⟨x, hx⟩ := h.c34
    exact ⟨_, (cset (cset (cset hx)))⟩
  · intro i; simpa using h.fz i
  · simpa [World.setCell] using h.lt
  · exact h.br
  · exact hq
end Go.Proofs.Qxb6615986aDoor
