import Derived.Test.Qxb6615986aDoorASelf
import Derived.Deep.AppendLies
set_option linter.unusedSimpArgs false
namespace Go.Proofs.Qxb6615986aDoor
open Go.RowKit Go.MuLone
theorem app58 (w : World) {ops : Array Oper} {o : Oper} {a : Act} {K : Act → World → Prop} {Q : Exit → Act → World → Prop} {E : Prop} (hgd : o.guard = none) (s x : Operand)
    (ho : o.op = .call { callee := .builtin .append, args := #[s, x], argTypes := #[58, 58] })
    (base : Nat) (v : Value) (n : Nat) (xs : List Value) (hs : a.eval s = v) (hown : w.ownsRow base 76 1 v n xs)
    (b : Nat) (c : Nat) (u : Value) (hx : a.eval x = .slice (some ⟨b, 0, none⟩) 1 c) (hu : w.cell? ⟨b, 0, none⟩ = some u) (h1 : u.oneCell' = true)
    (hn : n ≤ 100) (hbase : base ≤ w.heap.size)
    (h : ∀ g cap w', w'.ownsRow base 76 1 (.slice (some ⟨g, 0, none⟩) (n + 1) cap) (n + 1) (xs ++ [u]) → w.grownBy w' v.ownBlock → (v.ownBlock = some g ∨ g = w.heap.size) → g < w'.heap.size → K (a.put o.dst (.slice (some ⟨g, 0, none⟩) (n + 1) cap)) w') :
    if Region.wanted o (yielded ops a.tmps) = true then Oper.wp Tryd.prog o a w K Q else E := by
  have hi : Tryd.prog.info? 76 = some Tryd.t76 := by kernel_rfl
  refine step_append_lies w hgd s x 58 ho base 76 Tryd.t76 (.pointer none) 1 8 Tryd.underlying58 hi (by kernel_rfl) (by kernel_rfl) (by kernel_rfl) (by kernel_rfl) (by omega) v n xs hs hown ⟨b, 0, none⟩ 1 c [u] hx rfl ?_ (by simpa using h1) (by omega) (by unfold maxLen; omega) (by omega) hbase _ rfl h
  intro j u' hj
  match j, hj with
  | 0, hj =>
    have : u = u' := by simpa using hj
    subst this
    rw [Addr.add_mid]
    exact hu
attribute [-go_sem] loadVar storeVar Instr.build
attribute [-simp] Tryd.zeroValue49 Tryd.zeroValue33
attribute [local go_sem] lvs svs bds idAt_drew idAt_drewN idAt_alloc hasId_self hasId_app idAt_setCell idAt_setCells cell_setCells frozen_setCells roomAt_drew roomAt_drewN roomAt_alloc hasRoom_cells idv_size app20 app21 app22 app23

theorem Keep.room {L : List Nat} {w w' : World} (h : Keep L w w') (b n : Nat) (hb : b < w.heap.size) (hn : b ∉ L) (hr : roomAt w b n) : roomAt w' b n := by
  intro j hj
  rw [h.cell b (0 + j) hb hn, h.frozen b (0 + j) hb hn]
  exact hr j hj
theorem Box.ld {W : World} {c t : Nat} {i : ID20} {p : Nat → Int} {z : Addr} {q n : Int} (h : Box W c t i (lo4 p) z q n) : (loadVar 49 ⟨c, 0, none⟩).run Tryd.prog W = .ok (.agg (ctv i p z q)) W := by
  have := run_loadVar_mid (P := Tryd.prog) W c 0 49 (ctv i p z q).toList _ ?_ Tryd.underlying49 rfl (info49 _ (by simpa using ctv_size i p z q))
  · simpa using this
  · intro j v hv
    have hv' : (ctv i p z q)[j]? = some v := by simpa using hv
    have hj : j < 24 := by
      by_cases hh : j < 24
      · exact hh
      · rw [Array.getElem?_eq_none (by rw [ctv_size]; omega)] at hv'
        cases hv'
    simp only [Nat.zero_add]
    by_cases h20 : j < 20
    · have : (idv i)[j]? = some v := by
        rw [ctv, Array.getElem?_append_left (by rw [idv_size]; omega)] at hv'
        exact hv'
      have := h.id j v (by simpa using this)
      simpa using this
    · obtain ⟨k, rfl⟩ : ∃ k, j = 20 + k := ⟨j - 20, by omega⟩
      rw [ctv, app_hi] at hv'
      match k, (show k < 4 by omega) with
      | 0, _ => rw [← hv']; exact h.a20
      | 1, _ => rw [← hv']; exact h.a21
      | 2, _ => rw [← hv']; exact h.a22
      | 3, _ => rw [← hv']; exact h.a23
/-- a new entry's cells -/
def env (i : ID20) (p : Nat → Int) (z : Addr) (q n : Int) : Array Value := idv i ++ #[.int .u64 0, .int .u64 (lo4 p), .pointer (some z), .int .u16 q, .int .u64 (n % 1000000000), .int .i64 (n / 1000000000), .pointer none, .int .u64 0, .int .i64 0, .pointer none, .int .i64 0, .int .u64 0, .int .i64 0, .pointer none, .bool false]
theorem build_env (i : ID20) (p : Nat → Int) (z : Addr) (q n : Int) (W : World) : (Instr.build 78 #[(0, .agg (ctv i p z q)), (1, .agg #[.int .u64 (n % 1000000000), .int .i64 (n / 1000000000), .pointer none])]).run Tryd.prog W = .ok (.agg (env i p z q n)) W := build78 i _ _ _ _ _ _ _ W
/-- the table's last answer is turned -/
theorem Tab.set_la {w : World} {T BS BK : Nat} {s : ID20} {m la : Int} {sl : Value} (h : Tab w T BS BK s m la sl) (n : Int) : Tab (((w.setCell ⟨T, 23, none⟩ (.int .u64 (n % 1000000000))).setCell ⟨T, 24, none⟩ (.int .i64 (n / 1000000000))).setCell ⟨T, 25, none⟩ (.pointer none)) T BS BK s m n sl := by
  have c : ∀ b o, T ≠ b → (((w.setCell ⟨T, 23, none⟩ (.int .u64 (n % 1000000000))).setCell ⟨T, 24, none⟩ (.int .i64 (n / 1000000000))).setCell ⟨T, 25, none⟩ (.pointer none)).cell? ⟨b, o, none⟩ = w.cell? ⟨b, o, none⟩ := fun b o hh => by
    have k : ∀ (W : World) (o' : Nat) (v : Value), (W.setCell ⟨T, o', none⟩ v).cell? ⟨b, o, none⟩ = W.cell? ⟨b, o, none⟩ := fun W o' v => World.cell?_of_block (Below.heap_setCell _ _ _ _ (fun e => hh e.symm))
    rw [k, k, k]
  constructor
  · simp only [idAt_setCell]
    simpa using h.id
  · exact cset (cset (cset h.mu))
  · exact cset (cset (cset h.bs))
  · exact cset (cset (cset h.a0))
  · exact cset (cset (cset h.a1))
  · exact cset (cset (cset h.a2))
  · rw [c _ _ h.dTS]; exact h.bk
  · rw [c _ _ h.dTK]; exact h.en
  · rw [c _ _ h.dTK]; exact h.k1
  · rw [c _ _ h.dTK]; exact h.k2
  · rw [c _ _ h.dTK]; exact h.k3
  · intro i; simpa using h.fT i
  · intro i; simpa using h.fK i
  · exact h.dTS
  · exact h.dTK
  · exact h.dSK
  · simpa [World.setCell] using h.lT
  · simpa [World.setCell] using h.lS
  · simpa [World.setCell] using h.lK

theorem own_keep {w w' : World} {B n : Nat} {v : Value} {xs : List Value} {l : List Nat} (h : w.ownsRow B 76 1 v n xs) (k : Keep l w w') (hl : ∀ x, v.ownBlock = some x → x ∉ l) : w'.ownsRow B 76 1 v n xs := by
  obtain ⟨h1, h2⟩ := h
  refine ⟨h1, ?_⟩
  rcases h2 with h2 | ⟨g, cap, cur, rfl, hb, hg, h3⟩
  · exact .inl h2
  · refine .inr ⟨g, cap, cur, rfl, hb, ?_, h3⟩
    rw [k.block g ?_ (hl g rfl)]
    · exact hg
    · rcases Nat.lt_or_ge g w.heap.size with h | h
      · exact h
      · rw [Array.getElem?_eq_none h] at hg; cases hg
theorem roomAt_set (W : World) (a : Addr) (u : Value) (b n : Nat) : roomAt (W.setCell a u) b n = roomAt W b n := by
  have h1 : ∀ j, ((W.setCell a u).cell? ⟨b, 0 + j, none⟩).isSome = (W.cell? ⟨b, 0 + j, none⟩).isSome := fun j => by
    by_cases h : a = ⟨b, 0 + j, none⟩
    · subst h
      cases hc : W.cell? ⟨b, 0 + j, none⟩ with
      | some x => rw [World.cell?_setCell_same _ _ _ hc]; rfl
      | none =>
        simp only [World.cell?, World.setCell, Array.getElem?_modify] at hc ⊢
        cases hh : W.heap[b]? with
        | none => simp [hh]
        | some o =>
          cases o <;> simp_all
    · rw [World.cell?_setCell_other _ _ _ _ h]
  rw [eq_iff_iff]
  unfold roomAt World.there
  simp only [h1]
  simp
theorem Keep.mono {l l' : List Nat} {w w' : World} (h : Keep l w w') (hs : ∀ x ∈ l, x ∈ l') : Keep l' w w' := ⟨h.os, h.tape, h.output, h.size, fun k hk hn => h.block k hk (fun e => hn (hs k e))⟩

theorem Keep.cells (w : World) (b o : Nat) (vs : List Value) : Keep [b] w (w.setCells b o vs) := by
  induction vs generalizing w o with
  | nil => exact Keep.refl _ _
  | cons v r ih => exact (Keep.set w ⟨b, o, none⟩ v (by simp)).trans (ih _ (o + 1))
theorem Tab.keep {w w' : World} {T BS BK : Nat} {s : ID20} {m la : Int} {sl : Value} (h : Tab w T BS BK s m la sl) {l : List Nat} (k : Keep l w w') (h1 : T ∉ l) (h2 : BS ∉ l) (h3 : BK ∉ l) : Tab w' T BS BK s m la sl := by
  have hz := k.size
  constructor
  · rw [k.id T s h.lT h1]; exact h.id
  · rw [k.cell T _ h.lT h1]; exact h.mu
  · rw [k.cell T _ h.lT h1]; exact h.bs
  · rw [k.cell T _ h.lT h1]; exact h.a0
  · rw [k.cell T _ h.lT h1]; exact h.a1
  · rw [k.cell T _ h.lT h1]; exact h.a2
  · rw [k.cell BS _ h.lS h2]; exact h.bk
  · rw [k.cell BK _ h.lK h3]; exact h.en
  · rw [k.cell BK _ h.lK h3]; exact h.k1
  · rw [k.cell BK _ h.lK h3]; exact h.k2
  · rw [k.cell BK _ h.lK h3]; exact h.k3
  · intro i; rw [k.frozen T _ h.lT h1]; exact h.fT i
  · intro i; rw [k.frozen BK _ h.lK h3]; exact h.fK i
  · exact h.dTS
  · exact h.dTK
  · exact h.dSK
  · exact Nat.lt_of_lt_of_le h.lT hz
  · exact Nat.lt_of_lt_of_le h.lS hz
  · exact Nat.lt_of_lt_of_le h.lK hz
theorem Ent.keep {w w' : World} {E : Nat} {A : ID20} {L : Int} {z : Addr} {q lr lq f lf : Int} (h : Ent w E A L z q lr lq f lf) {l : List Nat} (k : Keep l w w') (h1 : E ∉ l) : Ent w' E A L z q lr lq f lf := by
  have hz := k.size
  have hl := h.lt
  have c := fun o => k.cell E o hl h1
  constructor
  · rw [k.id E A hl h1]; exact h.id
  · rw [c]; exact h.c20
  · rw [c]; exact h.c21
  · rw [c]; exact h.c22
  · rw [c]; exact h.c23
  · rw [c]; exact h.c24
  · rw [c]; exact h.c25
  · rw [c]; exact h.c26
  · rw [c]; exact h.c27
  · rw [c]; exact h.c28
  · rw [c]; exact h.c29
  · rw [c]; exact h.c30
  · rw [c]; exact h.c31
  · rw [c]; exact h.c32
  · rw [c]; exact h.c33
  · rw [c]; exact h.c34
  · intro i; rw [k.frozen E _ hl h1]; exact h.fz i
  · exact Nat.lt_of_lt_of_le hl hz
  · exact h.br
  · exact h.bq
/-- a store into the bucket's cells -/
theorem Tab.set_en {w : World} {T BS BK : Nat} {s : ID20} {m la : Int} {sl : Value} (h : Tab w T BS BK s m la sl) (o : Nat) (v : Value) : Tab (w.setCell ⟨BK, o, none⟩ v) T BS BK s m la (if o = 0 then v else sl) := by
  have c : ∀ b o', BK ≠ b → (w.setCell ⟨BK, o, none⟩ v).cell? ⟨b, o', none⟩ = w.cell? ⟨b, o', none⟩ := fun b o' hh => World.cell?_of_block (Below.heap_setCell _ _ _ _ (fun e => hh e.symm))
  have z : (w.setCell ⟨BK, o, none⟩ v).heap.size = w.heap.size := by simp [World.setCell]
  have e1 : BK ≠ T := fun e => h.dTK e.symm
  have e2 : BK ≠ BS := fun e => h.dSK e.symm
  constructor
  · rw [idAt_of (fun j _ => c T j e1)]; exact h.id
  · rw [c _ _ e1]; exact h.mu
  · rw [c _ _ e1]; exact h.bs
  · rw [c _ _ e1]; exact h.a0
  · rw [c _ _ e1]; exact h.a1
  · rw [c _ _ e1]; exact h.a2
  · rw [c _ _ e2]; exact h.bk
  · exact cset h.en
  · obtain ⟨x, hx⟩ := h.k1; exact ⟨_, cset hx⟩
  · obtain ⟨x, hx⟩ := h.k2; exact ⟨_, cset hx⟩
  · obtain ⟨x, hx⟩ := h.k3; exact ⟨_, cset hx⟩
  · intro i; simpa using h.fT i
  · intro i; simpa using h.fK i
  · exact h.dTS
  · exact h.dTK
  · exact h.dSK
  · rw [z]; exact h.lT
  · rw [z]; exact h.lS
  · rw [z]; exact h.lK
attribute [local go_sem] app24 app25 app26 app27 app28 app29 app30 app31 app32 app33 app34
theorem Ent.new {w : World} {E : Nat} {i : ID20} {p : Nat → Int} {z : Addr} {q n : Int} (h : w.heap[E]? = some (.cells (env i p z q n) 78)) (h0 : 0 ≤ n) (h1 : n ≤ 4611686018427387904) : Ent w E i (lo4 p) z q n 0 0 0 := by
  have c : ∀ o, w.cell? ⟨E, o, none⟩ = (env i p z q n)[o]? := fun o => by simp [World.cell?, h]
  constructor
  · intro j v hv
    rw [Nat.zero_add, c]
    have hh : hasId (.cells (env i p z q n) 78) i := by rw [env, hasId_app]; trivial
    exact hh j v hv
  · rw [c, env, app20]; rfl
  · rw [c, env, app21]; rfl
  · rw [c, env, app22]; rfl
  · rw [c, env, app23]; rfl
  · rw [c, env, app24]; rfl
  · rw [c, env, app25]; rfl
  · rw [c, env, app26]; rfl
  · rw [c, env, app27]; rfl
  · rw [c, env, app28]; rfl
  · rw [c, env, app29]; rfl
  · rw [c, env, app30]; rfl
  · rw [c, env, app31]; rfl
  · rw [c, env, app32]; rfl
  · rw [c, env, app33]; rfl
  · exact ⟨.bool false, by rw [c, env, app34]; rfl⟩
  · intro i; simp [World.frozen?, h]
  · rcases Nat.lt_or_ge E w.heap.size with hh | hh
    · exact hh
    · rw [Array.getElem?_eq_none hh] at h; cases h
  · exact ⟨h0, h1⟩
  · exact ⟨by omega, by omega⟩
theorem own_first {w : World} {B ES n c : Nat} {x : Value} {xs : List Value} (h : w.ownsRow B 76 1 (.slice (some ⟨ES, 0, none⟩) n c) n (x :: xs)) : w.cell? ⟨ES, 0, none⟩ = some x := by
  obtain ⟨h1, h2⟩ := h
  rcases h2 with ⟨h2, _⟩ | ⟨g, cap, cur, hv, hb, hg, h3, h4, h5, h6⟩
  · cases h2
  · cases hv
    have : cur.toList[0]? = some x := by
      have h7 : (cur.toList.take (n * 1))[0]? = some x := by rw [h6]; rfl
      rw [List.getElem?_take] at h7
      split at h7
      · exact h7
      · cases h7
    have h8 : cur[0]? = some x := by simpa using this
    simp [World.cell?, hg, h8]
theorem Keep.fresh {l : List Nat} {w a a' : World} {b : Nat} (h : Keep l w a) (k : Keep [b] a a') (hb : w.heap.size ≤ b) : Keep l w a' :=
  ⟨k.os.trans h.os, k.tape.trans h.tape, k.output.trans h.output, Nat.le_trans h.size k.size, fun i hi hn => (k.block i (Nat.lt_of_lt_of_le hi h.size) (by simp; omega)).trans (h.block i hi hn)⟩
theorem ld49_other (C : Array Value) (hl : C.size = 24) (b : Nat) (W : World) (a : Addr) (v : Value) (hab : a.block ≠ b) (h : roomAt W b 24) : (loadVar 49 ⟨b, 0, none⟩).run Tryd.prog ((W.setCells b 0 C.toList).setCell a v) = .ok (.agg C) ((W.setCells b 0 C.toList).setCell a v) := by
  have e : C.toList.length = 24 := by simpa using hl
  refine run_loadVar_mid _ b 0 49 C.toList _ (fun j u hj => ?_) Tryd.underlying49 rfl (info49 _ e)
  rw [World.cell?_of_block (w := W.setCells b 0 C.toList) (Below.heap_setCell _ _ _ _ (fun e => hab e.symm))]
  exact World.rangeAt_setCells_same W b 0 C.toList (by rw [e]; exact h) j u hj
/-- what an answer of a node that was not there leaves -/
def AddP (T BS BK : Nat) (s i : ID20) (p : Nat → Int) (la q n : Int) (z : Addr) (k B : Nat) (xs : List Value) (L : List Nat) (w w' : World) : Prop :=
  (∃ ES c' E, Tab w' T BS BK s 0 la (.slice (some ⟨ES, 0, none⟩) (k + 1) c') ∧ w'.ownsRow B 76 1 (.slice (some ⟨ES, 0, none⟩) (k + 1) c') (k + 1) (xs ++ [.pointer (some ⟨E, 0, none⟩)]) ∧ Ent w' E i (lo4 p) z q n 0 0 0 ∧ w.heap.size ≤ E ∧ (ES ∈ L ∨ w.heap.size ≤ ES) ∧ ES ≠ E) ∧ Keep (T :: BK :: L) w w'
end Go.Proofs.Qxb6615986aDoor
