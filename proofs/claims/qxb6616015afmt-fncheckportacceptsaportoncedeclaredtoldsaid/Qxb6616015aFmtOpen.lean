import Derived.Test.Qxb6616015aFmtJoinB
import Derived.Deep.Slices
import Derived.Deep.Strs
import Derived.OpenShut
namespace Go.Proofs.Qxb6616015aFmt
open Go.RowKit Go.Deep

theorem Tryf.cells29 : Tryf.prog.cellsOf 29 = 3 := by kernel_rfl
theorem Tryf.cells46 : Tryf.prog.cellsOf 46 = 2 := by kernel_rfl
theorem Tryf.cells27 : Tryf.prog.cellsOf 27 = 1 := by kernel_rfl
theorem Tryf.cells9 : Tryf.prog.cellsOf 9 = 1 := by kernel_rfl
theorem Tryf.cells3 : Tryf.prog.cellsOf 3 = 1 := by kernel_rfl

theorem two_of {cs : List Value} (h : cs.length = 2) : ∃ c0 c1, cs = [c0, c1] := by
  match cs, h with
  | [c0, c1], _ => exact ⟨c0, c1, rfl⟩
theorem three_of {cs : List Value} (h : cs.length = 3) : ∃ c0 c1 c2, cs = [c0, c1, c2] := by
  match cs, h with
  | [c0, c1, c2], _ => exact ⟨c0, c1, c2, rfl⟩

section
variable {H : Type} {enc : TypeId × Value → H} {w : World} {held : Bool}

theorem open_port {fuel : Nat} {cs : List Value} {x : DataW H × List MemPlace} (h : DataW.trod enc Tryf.prog w 0 (fun _ => true) held fuel 46 cs = some x) :
    ∃ (s : ByteArray) (p : Int), cs = [.string s, .int .i64 p] := by
  obtain ⟨y0, y1, m, _, hl, h0, h1⟩ := ChangeShapes.trod_struct2 Tryf.underlying46 h
  rw [Tryf.cells46] at hl
  obtain ⟨c0, c1, rfl⟩ := two_of hl
  simp only [Tryf.cells9, Tryf.cells3, List.drop, List.take] at h0 h1
  obtain ⟨s, hs, _⟩ := DataW.trod_string Tryf.underlying9 h0
  obtain ⟨p, hp, _⟩ := DataW.trod_int Tryf.underlying3 h1
  simp at hs hp
  exact ⟨s, p, by rw [hs, hp]⟩

theorem spot_of {b off : Nat} {spot : Option Nat} {v : Value} (h : w.cell? ⟨b, off, spot⟩ = some v) : spot = none := by
  cases spot with
  | none => rfl
  | some s =>
    exfalso
    unfold World.cell? at h
    split at h <;> simp at h

theorem open_ports {fuel : Nat} {cs : List Value} {x : DataW H × List MemPlace} (h : DataW.trod enc Tryf.prog w 0 (fun _ => true) held fuel 27 cs = some x) :
    ∃ (pa : Option Addr) (pl pc : Nat) (pn : Nat → ByteArray) (pp : Nat → Int), cs = [.slice pa pl pc] ∧ ∀ ns nm, Prts w ⟨ns, nm, pa, pl, pc, pn, pp⟩ := by
  rcases open_slice Tryf.underlying27 h with ⟨h0, _⟩ | ⟨a, len, cap, m, k, D, Pl, hcs, _, hl, _, hm, _, hel⟩
  · exact ⟨none, 0, 0, fun _ => ByteArray.empty, fun _ => 0, h0, fun _ _ => .inl rfl⟩
  · simp only [if_true] at hm
    subst hm
    have hx : ∀ i, i < len → ∃ sp : ByteArray × Int, w.cell? (a.add (i * 2)) = some (.string sp.1) ∧ w.cell? ((a.add (i * 2)).add 1) = some (.int .i64 sp.2) := by
      intro i hi
      obtain ⟨cs', hc, ht⟩ := hel i (by omega)
      rw [Tryf.cells46] at hc
      obtain ⟨s, p, rfl⟩ := open_port ht
      obtain ⟨_, _, hcell⟩ := World.cells?_some hc
      refine ⟨(s, p), ?_, ?_⟩
      · have := hcell 0 (by omega)
        simpa [Addr.add] using this
      · exact hcell 1 (by omega)
    obtain ⟨f, hf⟩ := choose_lt hx
    refine ⟨some a, len, m, fun i => (f i).1, fun i => (f i).2, hcs, fun ns nm => ?_⟩
    by_cases h0 : len = 0
    · exact .inl h0
    · obtain ⟨b, off, spot⟩ := a
      obtain rfl := spot_of (by simpa [Addr.add] using (hf 0 (by omega)).1)
      refine .inr ⟨b, off, rfl, ?_, fun j hj => ?_⟩
      · have := (hf 0 (by omega)).1
        exact lt_of_cell (by simpa [Addr.add] using this)
      · obtain ⟨h1, h2⟩ := hf j hj
        rw [Addr.add_lit] at h1 h2
        rw [Addr.add_lit] at h2
        exact ⟨h1, h2⟩

theorem open_svc {fuel : Nat} {cs : List Value} {x : DataW H × List MemPlace} (h : DataW.trod enc Tryf.prog w 0 (fun _ => true) held fuel 29 cs = some x) :
    ∃ s : Svc, cs = [.string s.ns, .string s.nm, .slice s.pa s.pl s.pc] ∧ Prts w s := by
  obtain ⟨y0, y1, y2, m, _, hl, h0, h1, h2⟩ := trod_struct3 Tryf.underlying29 h
  rw [Tryf.cells29] at hl
  obtain ⟨c0, c1, c2, rfl⟩ := three_of hl
  simp only [Tryf.cells9, Tryf.cells27, List.drop, List.take] at h0 h1 h2
  obtain ⟨s, hs, _⟩ := DataW.trod_string Tryf.underlying9 h0
  obtain ⟨t, ht, _⟩ := DataW.trod_string Tryf.underlying9 h1
  obtain ⟨pa, pl, pc, pn, pp, hp, hP⟩ := open_ports h2
  simp at hs ht hp
  exact ⟨⟨s, t, pa, pl, pc, pn, pp⟩, by rw [hs, ht, hp], hP s t⟩

theorem open_svcs {fuel : Nat} {cs : List Value} {x : DataW H × List MemPlace} (h : DataW.trod enc Tryf.prog w 0 (fun _ => true) held fuel 22 cs = some x) :
    ∃ (a : Option Addr) (n cap : Nat) (sv : Nat → Svc), cs = [.slice a n cap] ∧ Arg w a n cap sv := by
  rcases open_slice Tryf.underlying22 h with ⟨h0, _⟩ | ⟨a, len, cap, m, k, D, Pl, hcs, _, hl, hmax, hm, _, hel⟩
  · exact ⟨none, 0, 0, fun _ => ⟨ByteArray.empty, ByteArray.empty, none, 0, 0, fun _ => ByteArray.empty, fun _ => 0⟩, h0, ⟨.inl rfl, fun _ => ⟨rfl, rfl⟩, Nat.zero_le _⟩⟩
  · simp only [if_true] at hm
    subst hm
    have hx : ∀ i, i < len → ∃ s : Svc, w.cell? (a.add (i * 3)) = some (.string s.ns) ∧ w.cell? ((a.add (i * 3)).add 1) = some (.string s.nm) ∧ w.cell? ((a.add (i * 3)).add 2) = some (.slice s.pa s.pl s.pc) ∧ Prts w s := by
      intro i hi
      obtain ⟨cs', hc, ht⟩ := hel i (by omega)
      rw [Tryf.cells29] at hc
      obtain ⟨s, rfl, hP⟩ := open_svc ht
      obtain ⟨_, _, hcell⟩ := World.cells?_some hc
      refine ⟨s, ?_, hcell 1 (by omega), hcell 2 (by omega), hP⟩
      have := hcell 0 (by omega)
      simpa [Addr.add] using this
    obtain ⟨f, hf⟩ := @choose_lt Svc ⟨⟨ByteArray.empty, ByteArray.empty, none, 0, 0, fun _ => ByteArray.empty, fun _ => 0⟩⟩ _ _ hx
    refine ⟨some a, len, m, f, hcs, ⟨?_, (fun h => by cases h), Nat.le_trans hl hmax⟩⟩
    by_cases h0 : len = 0
    · exact .inl h0
    · obtain ⟨b, off, spot⟩ := a
      obtain rfl := spot_of (by simpa [Addr.add] using (hf 0 (by omega)).1)
      refine .inr ⟨b, off, rfl, ?_, fun j hj => ?_⟩
      · have := (hf 0 (by omega)).1
        exact lt_of_cell (by simpa [Addr.add] using this)
      · obtain ⟨h1, h2, h3, h4⟩ := hf j hj
        rw [Addr.add_lit] at h1 h2 h3
        rw [Addr.add_lit] at h2 h3
        exact ⟨h1, h2, h3, h4⟩
end
end Go.Proofs.Qxb6616015aFmt
