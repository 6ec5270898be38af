import Derived.Test.Qxb6615986aDoorTimeA
import Derived.BigQuiet
import Derived.Deep.RegionWith
import Derived.Deep.MidRow
import Derived.Stop.BytesEq
import Derived.Deep.WholeRow
set_option linter.defProp false
namespace Go.Proofs.Qxb6615986aDoor
open Go.RowKit

/-- an id: twenty bytes -/
def ID20 := { l : List UInt8 // l.length = 20 }
/-- an id's cells -/
def idv (s : ID20) : Array Value := (s.1.map Extern.Stop.cell).toArray
theorem idv_size (s : ID20) : (idv s).size = 20 := by simp [idv, s.2]
theorem idv_len (s : ID20) : (idv s).toList.length = 20 := by simp [idv, s.2]
theorem idv_one (s : ID20) : (idv s).all (·.oneCell') = true := by
  simp [idv, Extern.Stop.cell, Value.oneCell']
theorem idv_get (s : ID20) (i : Nat) : (idv s)[i]? = (s.1[i]?).map Extern.Stop.cell := by simp [idv]
theorem ID20.lit (s : ID20) : ∃ a0 a1 a2 a3 a4 a5 a6 a7 a8 a9 a10 a11 a12 a13 a14 a15 a16 a17 a18 a19, s.1 = [a0, a1, a2, a3, a4, a5, a6, a7, a8, a9, a10, a11, a12, a13, a14, a15, a16, a17, a18, a19] := by
  obtain ⟨l, hl⟩ := s
  match l, hl with
  | [a0, a1, a2, a3, a4, a5, a6, a7, a8, a9, a10, a11, a12, a13, a14, a15, a16, a17, a18, a19], _ => exact ⟨a0, a1, a2, a3, a4, a5, a6, a7, a8, a9, a10, a11, a12, a13, a14, a15, a16, a17, a18, a19, rfl⟩

theorem info33 (n : Nat) (h : n = 20) : (Tryd.prog.info? 33).map (·.size) = some n := by subst h; kernel_rfl
theorem info22 (n : Nat) (h : n = 20) : (Tryd.prog.info? 22).map (·.size) = some n := by subst h; kernel_rfl
theorem info49 (n : Nat) (h : n = 24) : (Tryd.prog.info? 49).map (·.size) = some n := by subst h; kernel_rfl

/-- the id s lies at the head of block b -/
def idAt (W : World) (b : Nat) (s : ID20) : Prop := W.rangeAt b 0 (idv s).toList
/-- as 'idAt': where the rules below do not go on -/
def idTop (W : World) (b : Nat) (s : ID20) : Prop := W.rangeAt b 0 (idv s).toList
/-- n cells are there at the head of block b -/
def roomAt (W : World) (b n : Nat) : Prop := W.there b 0 n
def hasId (x : Obj) (s : ID20) : Prop := match x with
  | .cells C _ _ => ∀ (j : Nat) (v : Value), (idv s).toList[j]? = some v → C[j]? = some v
  | _ => False
def hasRoom (x : Obj) (n : Nat) : Prop := match x with
  | .cells C _ fr => ∀ j, j < n → (C[j]?).isSome = true ∧ (decide (fr.1 ≤ j) && decide (j < fr.2)) = false
  | _ => False

theorem ld33 (b : Nat) (s : ID20) (W : World) (h : idAt W b s) : (loadVar 33 ⟨b, 0, none⟩).run Tryd.prog W = .ok (.agg (idv s)) W :=
  run_loadVar_mid W b 0 33 (idv s).toList _ h Tryd.underlying33 rfl (info33 _ (idv_len s))
theorem ld22 (b : Nat) (s : ID20) (W : World) (h : idAt W b s) : (loadVar 22 ⟨b, 0, none⟩).run Tryd.prog W = .ok (.agg (idv s)) W :=
  run_loadVar_mid W b 0 22 (idv s).toList _ h Tryd.underlying22 rfl (info22 _ (idv_len s))
theorem st49 (C : Array Value) (hl : C.size = 24) (h1 : C.all (·.oneCell') = true) (b : Nat) (W : World) (h : roomAt W b 24) : (storeVar 49 ⟨b, 0, none⟩ (.agg C)).run Tryd.prog W = .ok () (W.setCells b 0 C.toList) :=
  run_storeVar_mid W b 0 49 C (by rw [hl]; exact h) (info49 _ hl) h1
theorem st33 (s : ID20) (b : Nat) (W : World) (h : roomAt W b 20) : (storeVar 33 ⟨b, 0, none⟩ (.agg (idv s))).run Tryd.prog W = .ok () (W.setCells b 0 (idv s).toList) :=
  run_storeVar_mid W b 0 33 (idv s) (by rw [idv_size]; exact h) (info33 _ (idv_size s)) (idv_one s)
theorem eq33 (s t : ID20) (W : World) : (Op.equalIn 10000 33 (.agg (idv s)) (.agg (idv t))).run Tryd.prog W = .ok (s.1 == t.1) W :=
  run_equalIn_bytes W 9998 33 5 20 Tryd.underlying33 Tryd.underlying5 Tryd.sizeOf5 s.1 t.1 s.2 t.2
theorem eq22 (s t : ID20) (W : World) : (Op.equalIn 10000 22 (.agg (idv s)) (.agg (idv t))).run Tryd.prog W = .ok (s.1 == t.1) W :=
  run_equalIn_bytes W 9998 22 5 20 Tryd.underlying22 Tryd.underlying5 Tryd.sizeOf5 s.1 t.1 s.2 t.2

/-- what is opened to its cells: all but the great ones -/
def lvs (t : TypeId) (a : Addr) (_h : (t == 22 || t == 33 || t == 49) = false) := loadVar.eq_1 t a
def svs (t : TypeId) (a : Addr) (v : Value) (_h : (t == 22 || t == 33 || t == 49) = false) := storeVar.eq_1 t a v
def bds (t : TypeId) (ps : Array (Nat × Value)) (_h : (t == 70 || t == 78 || t == 49) = false) := Instr.build.eq_1 t ps

theorem idAt_of {W V : World} {b : Nat} {s : ID20} (h : ∀ j, j < 20 → W.cell? ⟨b, j, none⟩ = V.cell? ⟨b, j, none⟩) : idAt W b s = idAt V b s := by
  have key : ∀ j v, (idv s).toList[j]? = some v → j < 20 := fun j v hv => by
    have := (List.getElem?_eq_some_iff.1 hv).1
    rwa [idv_len] at this
  rw [eq_iff_iff]
  constructor
  · intro hh j v hv
    have := hh j v hv
    simp only [Nat.zero_add] at this ⊢
    rw [← h j (key j v hv)]; exact this
  · intro hh j v hv
    have := hh j v hv
    simp only [Nat.zero_add] at this ⊢
    rw [h j (key j v hv)]; exact this
theorem idAt_drew (W : World) (b : Nat) (s : ID20) : idAt W.drew b s = idAt W b s := idAt_of fun _ _ => rfl
theorem idAt_alloc (W : World) (x : Obj) (b : Nat) (s : ID20) : idAt (W.alloc x) b s = (if b < W.heap.size then idAt W b s else (b = W.heap.size ∧ hasId x s)) := by
  split
  · rename_i hb
    exact idAt_of fun j _ => World.cell?_of_block (Below.heap_alloc _ _ _ hb)
  · rename_i hb
    rw [eq_iff_iff]
    by_cases he : b = W.heap.size
    · subst he
      constructor
      · intro h
        refine ⟨rfl, ?_⟩
        have h0 := Go.heap_alloc_last W x
        have : ∀ (j : Nat) (v : Value), (idv s).toList[j]? = some v → (W.alloc x).cell? ⟨W.heap.size, 0 + j, none⟩ = some v := h
        simp only [World.cell?, h0] at this
        cases x with
        | cells C t fr => intro j v hv; simpa using this j v hv
        | _ =>
          obtain ⟨a0, a1, a2, a3, a4, a5, a6, a7, a8, a9, a10, a11, a12, a13, a14, a15, a16, a17, a18, a19, e⟩ := s.lit
          have := this 0 (Extern.Stop.cell a0) (by simp [idv, e])
          simp at this
      · rintro ⟨_, h⟩ j v hv
        have h0 := Go.heap_alloc_last W x
        simp only [World.cell?, h0]
        cases x with
        | cells C t fr => simpa using h j v hv
        | _ => exact absurd h id
    · constructor
      · intro h
        obtain ⟨a0, a1, a2, a3, a4, a5, a6, a7, a8, a9, a10, a11, a12, a13, a14, a15, a16, a17, a18, a19, e⟩ := s.lit
        have := h 0 (Extern.Stop.cell a0) (by simp [idv, e])
        have hn : (W.alloc x).heap[b]? = none := by
          show (W.heap.push x)[b]? = none
          rw [Array.getElem?_eq_none]
          simp
          omega
        simp [World.cell?, hn] at this
      · rintro ⟨h, _⟩
        exact absurd h he
theorem hasId_self (s : ID20) (t : TypeId) : hasId (.cells (idv s) t) s = True := by
  simp only [eq_iff_iff, iff_true]
  intro j v hv
  simpa using hv
theorem app_hi (s : ID20) (X : Array Value) (k : Nat) : (idv s ++ X)[20 + k]? = X[k]? := by
  rw [Array.getElem?_append_right (by rw [idv_size]; omega), idv_size]
  congr 1
  omega
theorem hasId_app (s : ID20) (X : Array Value) (t : TypeId) : hasId (.cells (idv s ++ X) t) s = True := by
  simp only [eq_iff_iff, iff_true]
  intro j v h
  have h' : (idv s)[j]? = some v := by simpa using h
  have hj : j < (idv s).size := by
    by_cases hh : j < (idv s).size
    · exact hh
    · rw [Array.getElem?_eq_none (by omega)] at h'
      cases h'
  rw [Array.getElem?_append_left hj, h']
theorem idAt_setCell (W : World) (a : Addr) (u : Value) (b : Nat) (s : ID20) : idAt (W.setCell a u) b s = (if a.block = b ∧ a.off < 20 then idTop (W.setCell a u) b s else idAt W b s) := by
  split
  · rfl
  · rename_i h
    refine idAt_of fun j hj => ?_
    by_cases hb : a.block = b
    · exact World.cell?_setCell_other _ _ _ _ (fun e => h ⟨hb, by rw [e]; exact hj⟩)
    · exact World.cell?_of_block (Below.heap_setCell _ _ _ _ (fun e => hb e.symm))
theorem idAt_setCells (W : World) (c : Nat) (o : Nat) (vs : List Value) (b : Nat) (s : ID20) : idAt (W.setCells c o vs) b s = (if c = b then idTop (W.setCells c o vs) b s else idAt W b s) := by
  split
  · rfl
  · rename_i h
    exact idAt_of fun j hj => World.cell?_setCells_out _ _ _ _ _ (fun e => absurd e.symm h)
def cellTop (W : World) (a : Addr) : Option Value := W.cell? a
theorem cell_setCells (W : World) (c o : Nat) (vs : List Value) (b i : Nat) : (W.setCells c o vs).cell? ⟨b, i, none⟩ = (if c = b then cellTop (W.setCells c o vs) ⟨b, i, none⟩ else W.cell? ⟨b, i, none⟩) := by
  split
  · rfl
  · rename_i h
    exact World.cell?_setCells_out _ _ _ _ _ (fun e => absurd e.symm h)
theorem frozen_setCells (W : World) (c o : Nat) (vs : List Value) (x : Addr) : (W.setCells c o vs).frozen? x = W.frozen? x := World.frozen?_setCells c vs o W x
theorem roomAt_drew (W : World) (b n : Nat) : roomAt W.drew b n = roomAt W b n := by
  rw [eq_iff_iff]
  exact Iff.of_eq rfl
theorem roomAt_alloc (W : World) (x : Obj) (b n : Nat) : roomAt (W.alloc x) b n = (if b < W.heap.size then roomAt W b n else (n = 0 ∨ (b = W.heap.size ∧ hasRoom x n))) := by
  split
  · rename_i hb
    unfold roomAt World.there
    have h1 : ∀ j, (W.alloc x).cell? ⟨b, j, none⟩ = W.cell? ⟨b, j, none⟩ := fun j => World.cell?_of_block (Below.heap_alloc _ _ _ hb)
    have h2 : ∀ j, (W.alloc x).frozen? ⟨b, j, none⟩ = W.frozen? ⟨b, j, none⟩ := fun j => World.frozen?_of_block (Below.heap_alloc _ _ _ hb)
    simp only [h1, h2]
  · rename_i hb
    rw [eq_iff_iff]
    constructor
    · intro h
      by_cases hn : n = 0
      · exact .inl hn
      · right
        by_cases he : b = W.heap.size
        · subst he
          refine ⟨rfl, ?_⟩
          have h0 := Go.heap_alloc_last W x
          have h' : ∀ j, j < n → ((W.alloc x).cell? ⟨W.heap.size, 0 + j, none⟩).isSome = true ∧ (W.alloc x).frozen? ⟨W.heap.size, 0 + j, none⟩ = false := h
          simp only [World.cell?, World.frozen?, h0] at h'
          cases x with
          | cells C t fr => intro j hj; simpa using h' j hj
          | _ => have := h' 0 (by omega); simp at this
        · have := (h 0 (by omega)).1
          have hx : (W.alloc x).heap[b]? = none := by
            show (W.heap.push x)[b]? = none
            rw [Array.getElem?_eq_none]
            simp
            omega
          simp [World.cell?, hx] at this
    · rintro (h | ⟨rfl, h⟩) j hj
      · omega
      · have h0 := Go.heap_alloc_last W x
        simp only [World.cell?, World.frozen?, h0]
        cases x with
        | cells C t fr => simpa using h j hj
        | _ => exact absurd h id
theorem hasRoom_cells (C : Array Value) (t : TypeId) (n : Nat) : hasRoom (.cells C t) n = (n ≤ C.size) := by
  rw [eq_iff_iff]
  constructor
  · intro h
    by_cases hn : n ≤ C.size
    · exact hn
    · have := (h C.size (by omega)).1
      simp at this
  · intro h j hj
    simp
    omega
theorem idAt_below {B : Nat} {w w' : World} (h : Below B w w') (b : Nat) (s : ID20) (hb : b < B) : idAt w' b s = idAt w b s := idAt_of fun _ _ => h.cell hb
theorem below_setCells {B : Nat} {a w : World} (h : Below B a w) {b : Nat} (hb : B ≤ b) (vs : List Value) (o : Nat) : Below B a (w.setCells b o vs) := by
  induction vs generalizing w o with
  | nil => exact h
  | cons v r ih => exact ih (h.setCell hb v) (o + 1)

theorem build49_lit (a0 a1 a2 a3 a4 a5 a6 a7 a8 a9 a10 a11 a12 a13 a14 a15 a16 a17 a18 a19 : UInt8) (h lo z q : Value) (W : World) : (Instr.build 49 #[(0, .agg (([a0, a1, a2, a3, a4, a5, a6, a7, a8, a9, a10, a11, a12, a13, a14, a15, a16, a17, a18, a19] : List UInt8).map Extern.Stop.cell).toArray), (1, .agg #[h, lo, z, q])]).run Tryd.prog W = .ok (.agg ((([a0, a1, a2, a3, a4, a5, a6, a7, a8, a9, a10, a11, a12, a13, a14, a15, a16, a17, a18, a19] : List UInt8).map Extern.Stop.cell).toArray ++ #[h, lo, z, q])) W := by kernel_rfl
theorem build49 (s : ID20) (h lo z q : Value) (W : World) : (Instr.build 49 #[(0, .agg (idv s)), (1, .agg #[h, lo, z, q])]).run Tryd.prog W = .ok (.agg (idv s ++ #[h, lo, z, q])) W := by
  obtain ⟨a0, a1, a2, a3, a4, a5, a6, a7, a8, a9, a10, a11, a12, a13, a14, a15, a16, a17, a18, a19, e⟩ := s.lit
  unfold idv
  rw [e]
  exact build49_lit a0 a1 a2 a3 a4 a5 a6 a7 a8 a9 a10 a11 a12 a13 a14 a15 a16 a17 a18 a19 h lo z q W
theorem build70_lit (a0 a1 a2 a3 a4 a5 a6 a7 a8 a9 a10 a11 a12 a13 a14 a15 a16 a17 a18 a19 : UInt8) (s : Option Addr) (n m : Nat) (W : World) : (Instr.build 70 #[(0, .agg (([a0, a1, a2, a3, a4, a5, a6, a7, a8, a9, a10, a11, a12, a13, a14, a15, a16, a17, a18, a19] : List UInt8).map Extern.Stop.cell).toArray), (2, .slice s n m)]).run Tryd.prog W = .ok (.agg ((([a0, a1, a2, a3, a4, a5, a6, a7, a8, a9, a10, a11, a12, a13, a14, a15, a16, a17, a18, a19] : List UInt8).map Extern.Stop.cell).toArray ++ #[.int .i32 0, .int .u32 0, .slice s n m, .int .u64 0, .int .i64 0, .pointer none])) W := by kernel_rfl
theorem build70 (i : ID20) (s : Option Addr) (n m : Nat) (W : World) : (Instr.build 70 #[(0, .agg (idv i)), (2, .slice s n m)]).run Tryd.prog W = .ok (.agg (idv i ++ #[.int .i32 0, .int .u32 0, .slice s n m, .int .u64 0, .int .i64 0, .pointer none])) W := by
  obtain ⟨a0, a1, a2, a3, a4, a5, a6, a7, a8, a9, a10, a11, a12, a13, a14, a15, a16, a17, a18, a19, e⟩ := i.lit
  unfold idv
  rw [e]
  exact build70_lit a0 a1 a2 a3 a4 a5 a6 a7 a8 a9 a10 a11 a12 a13 a14 a15 a16 a17 a18 a19 s n m W
theorem build78_lit (a0 a1 a2 a3 a4 a5 a6 a7 a8 a9 a10 a11 a12 a13 a14 a15 a16 a17 a18 a19 : UInt8) (h lo z q t0 t1 t2 : Value) (W : World) : (Instr.build 78 #[(0, .agg ((([a0, a1, a2, a3, a4, a5, a6, a7, a8, a9, a10, a11, a12, a13, a14, a15, a16, a17, a18, a19] : List UInt8).map Extern.Stop.cell).toArray ++ #[h, lo, z, q])), (1, .agg #[t0, t1, t2])]).run Tryd.prog W = .ok (.agg ((([a0, a1, a2, a3, a4, a5, a6, a7, a8, a9, a10, a11, a12, a13, a14, a15, a16, a17, a18, a19] : List UInt8).map Extern.Stop.cell).toArray ++ #[h, lo, z, q, t0, t1, t2, .int .u64 0, .int .i64 0, .pointer none, .int .i64 0, .int .u64 0, .int .i64 0, .pointer none, .bool false])) W := by kernel_rfl
theorem build78 (i : ID20) (h lo z q t0 t1 t2 : Value) (W : World) : (Instr.build 78 #[(0, .agg (idv i ++ #[h, lo, z, q])), (1, .agg #[t0, t1, t2])]).run Tryd.prog W = .ok (.agg (idv i ++ #[h, lo, z, q, t0, t1, t2, .int .u64 0, .int .i64 0, .pointer none, .int .i64 0, .int .u64 0, .int .i64 0, .pointer none, .bool false])) W := by
  obtain ⟨a0, a1, a2, a3, a4, a5, a6, a7, a8, a9, a10, a11, a12, a13, a14, a15, a16, a17, a18, a19, e⟩ := i.lit
  unfold idv
  rw [e]
  exact build78_lit a0 a1 a2 a3 a4 a5 a6 a7 a8 a9 a10 a11 a12 a13 a14 a15 a16 a17 a18 a19 h lo z q t0 t1 t2 W
end Go.Proofs.Qxb6615986aDoor
