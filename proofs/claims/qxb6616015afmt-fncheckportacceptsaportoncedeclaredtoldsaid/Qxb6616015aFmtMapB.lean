import Derived.Test.Qxb6616015aFmtMapA
namespace Go.Proofs.Qxb6616015aFmt
open Go.RowKit

theorem lt_of_cell {w : World} {a : Addr} {v : Value} (h : w.cell? a = some v) : a.block < w.heap.size := by
  by_cases hb : a.block < w.heap.size
  · exact hb
  · have : w.heap[a.block]? = none := by simp; omega
    simp [World.cell?, this] at h
theorem lt_of_heap {w : World} {b : Nat} {o : Obj} (h : w.heap[b]? = some o) : b < w.heap.size := by
  by_cases hb : b < w.heap.size
  · exact hb
  · have : w.heap[b]? = none := by simp; omega
    rw [this] at h; cases h

/-- the ports of a document's service -/
def DocP (w : World) (D : Nat) (q : Option Addr) (s : Svc) : Prop :=
  s.pl = 0 ∨ ∃ pb, q = some ⟨pb, 0, none⟩ ∧ pb ≠ D ∧ ∀ j, j < s.pl → w.cell? ⟨pb, j * 2, none⟩ = some (.string (s.pn j)) ∧ w.cell? ⟨pb, j * 2 + 1, none⟩ = some (.int .i64 (s.pp j))
/-- service i of the document's row at block D -/
def DocS (w : World) (D i : Nat) (s : Svc) : Prop :=
  w.cell? ⟨D, i * 9, none⟩ = some (.string s.nm) ∧ w.cell? ⟨D, i * 9 + 1, none⟩ = some (.string s.ns) ∧ ∃ q c, w.cell? ⟨D, i * 9 + 8, none⟩ = some (.slice q s.pl c) ∧ DocP w D q s
theorem DocP.kept {w w' : World} {D : Nat} {q : Option Addr} {s : Svc} (h : DocP w D q s) (hb : Below w.heap.size w w') : DocP w' D q s := by
  rcases h with h | ⟨pb, h1, h0, h2⟩
  · exact .inl h
  · refine .inr ⟨pb, h1, h0, fun j hj => ?_⟩
    obtain ⟨x, y⟩ := h2 j hj
    have := lt_of_cell x
    exact ⟨(hb.cell (p := ⟨pb, j * 2, none⟩) this).trans x, (hb.cell (p := ⟨pb, j * 2 + 1, none⟩) this).trans y⟩
theorem DocS.below {w w' : World} {D i : Nat} {s : Svc} (h : DocS w D i s) (hb : Below w.heap.size w w') : DocS w' D i s := by
  obtain ⟨h1, h2, q, c, h3, h4⟩ := h
  have := lt_of_cell h1
  exact ⟨(hb.cell (p := ⟨D, i * 9, none⟩) this).trans h1, (hb.cell (p := ⟨D, i * 9 + 1, none⟩) this).trans h2, q, c, (hb.cell (p := ⟨D, i * 9 + 8, none⟩) this).trans h3, h4.kept hb⟩
/-- a resolver over the services lies at block R -/
def Res (w : World) (R n : Nat) (sv : Nat → Svc) : Prop :=
  ∃ M D, w.cell? ⟨R, 0, none⟩ = some (.map (some M)) ∧ w.heap[M]? = some (.map (ents D sv n) n) ∧ ∀ i, i < n → DocS w D i (sv i)
theorem Res.below {w w' : World} {R n : Nat} {sv : Nat → Svc} (h : Res w R n sv) (hb : Below w.heap.size w w') : Res w' R n sv := by
  obtain ⟨M, D, h1, h2, h3⟩ := h
  exact ⟨M, D, (hb.cell (p := ⟨R, 0, none⟩) (lt_of_cell h1)).trans h1, (hb.block M (lt_of_heap h2)).trans h2, fun i hi => (h3 i hi).below hb⟩

def lkv (D : Nat) : Option Nat → Value
  | none => .tuple #[.pointer none, .bool false]
  | some j => .tuple #[.pointer (some ⟨D, j * 9, none⟩), .bool true]
/-- PortName's answer -/
def PN (b : Bool) (e : Ending) : Prop := ∃ s : ByteArray, e = .returned (.tuple #[.string s, .bool b])

set_option maxHeartbeats 1000000 in
theorem portName_any (R n : Nat) (sv : Nat → Svc) (ns nm : ByteArray) (port : Int) (w : World) (hp : ∀ i, i < n → (sv i).pl ≤ 1048576) (hr : Res w R n sv) :
    Calls Tryf.prog 18 #[.pointer (some ⟨R, 0, none⟩), .string ns, .string nm, .int .i64 port] w fun e w' => PN (decl sv n ns nm port) e ∧ Below w.heap.size w w' := by
  obtain ⟨M, D, hm, hM, hd⟩ := hr
  have hlk : ∀ W : World, W.heap = w.heap → (Instr.lookup 48 (.map (some M)) (.agg #[.string ns, .string nm]) true).run Tryf.prog W = .ok (lkv D (fnd (fun i => isSv ns nm (sv i)) n 0)) W := fun W h => by
    rw [lookup48 D sv n M ns nm W (by rw [h]; exact hM)]
    cases fnd (fun i => isSv ns nm (sv i)) n 0 <;> rfl
  have hlt := fnd_lt (p := fun i => isSv ns nm (sv i)) n 0
  unfold decl
  generalize fnd (fun i => isSv ns nm (sv i)) n 0 = r at hlk hlt
  rcases r with _ | k
  · simp only [lkv] at hlk
    clear hlt hd hp
    go_enter Tryf.func18, Tryf.ntmps18
    go_wp2
    go_ret2
    exact ⟨⟨_, rfl⟩, Below.refl _ _⟩
  · have hk := (hlt k rfl).2.1
    have hpk := hp k (by omega)
    obtain ⟨_, _, q, c, d8, P⟩ := hd k (by omega)
    clear hlt hp hd
    show Calls Tryf.prog 18 _ w fun e w' => PN (hasP (sv k) port) e ∧ Below w.heap.size w w'
    generalize sv k = s at d8 P hpk
    obtain ⟨sns, snm, pa, pl, pc, pn, pp⟩ := s
    simp only at d8 hpk
    simp only [lkv] at hlk
    show Calls Tryf.prog 18 _ w fun e w' => PN (fnd (fun j => pp j == port) pl 0).isSome e ∧ Below w.heap.size w w'
    simp only [DocP] at P
    go_enter Tryf.func18, Tryf.ntmps18
    go_wp2
    clear hlk hm hM d8
    go_loopw [33] (fun i wr => ∃ j : Nat, j ≤ pl ∧ i = .int .i64 j ∧ Below w.heap.size w wr ∧ Hid (fnd (fun j => pp j == port) (pl - j) j = fnd (fun j => pp j == port) pl 0)) (fun i _ => pl - (intOf i).toNat)
    case atStart => exact ⟨0, by omega, rfl, Below.refl _ _, rfl⟩
    case round =>
      obtain ⟨j, hj, rfl, hb, H⟩ := hrel
      by_cases hjl : j < pl
      · rcases P with h0 | ⟨pb, rfl, _, hpc⟩
        · omega
        obtain ⟨e0, e1⟩ := hpc j hjl
        clear hpc
        have hlt := lt_of_cell e0
        simp only at hlt
        rw [← hb.cell (p := ⟨pb, _, none⟩) hlt] at e0 e1
        have HS : Hid (pl - j = (pl - (j + 1)) + 1) := by show pl - j = _; omega
        have hb1 : Below w.heap.size w (wr.alloc (.cells #[.string (pn j), .int .i64 (pp j)] 80)) := hb.alloc hb.size _
        by_cases h1 : (pp j == port) = true
        · go_wp2
          go_ret2
          refine ⟨?_, hb1⟩
          have := H.out
          rw [HS.out, fnd_hit h1] at this
          rw [← this]
          exact ⟨_, rfl⟩
        · have h1' : (pp j == port) = false := by simpa using h1
          clear h1
          go_wp2
          go_roundw
          case rel => exact ⟨j + 1, by omega, by go_num, hb1, by have := H.out; rw [HS.out, fnd_miss h1'] at this; exact this⟩
          case measure => simp [intOf]; omega
      · go_wp2
        go_ret2
        refine ⟨?_, hb⟩
        have := H.out
        rw [show pl - j = 0 by omega] at this
        rw [← this]
        exact ⟨_, rfl⟩
end Go.Proofs.Qxb6616015aFmt
