import Derived.Test.Qxb6616015aFmtJoinB
namespace Go.Proofs.Qxb6616015aFmt
open Go.RowKit

theorem cellsL_succ (sv : Nat → Svc) (m : Nat) : cellsL sv (m + 1) = cellsL sv m ++ [.string (sv m).ns, .string (sv m).nm, .slice (sv m).pa (sv m).pl (sv m).pc] := by
  unfold cellsL
  rw [show (m + 1) * 3 = m * 3 + 1 + 1 + 1 by omega, List.range_succ, List.range_succ, List.range_succ]
  simp only [List.map_append, List.map_cons, List.map_nil, List.append_assoc, List.cons_append, List.nil_append]
  rw [cellAt0, cellAt1, show m * 3 + 1 + 1 = m * 3 + 2 by omega, cellAt2]
theorem cellsL_congr {sv sv' : Nat → Svc} {m : Nat} (h : ∀ i, i < m → sv i = sv' i) : cellsL sv m = cellsL sv' m := by
  unfold cellsL
  apply List.map_congr_left
  intro j hj
  have : j / 3 < m := by have := List.mem_range.1 hj; omega
  unfold cellAt
  rw [h _ this]
theorem cell_three_new (w : World) (a b c : Value) (t : TypeId) : ∀ ad, some (⟨w.heap.size, 0, none⟩ : Addr) = some ad → ∀ j u, [a, b, c][j]? = some u → (w.alloc (.cells #[a, b, c] t)).cell? (ad.add j) = some u := by
  intro ad had j u hj
  obtain rfl := Option.some.inj had
  match j, hj with
  | 0, hj => simp at hj; subst hj; simp [Addr.add]
  | 1, hj => simp at hj; subst hj; simp [Addr.add]
  | 2, hj => simp at hj; subst hj; simp [Addr.add]
theorem one_three (a b : ByteArray) (x : Option Addr) (l c : Nat) : ∀ u ∈ [Value.string a, Value.string b, Value.slice x l c], u.oneCell' = true := by
  intro u hu
  simp at hu
  rcases hu with rfl | rfl | rfl <;> rfl
/-- an owned row of services that the call made, as services -/
theorem owned_svcs {w : World} {base g m cap : Nat} {sv : Nat → Svc} (h : w.ownsRow base 29 3 (.slice (some ⟨g, 0, none⟩) m cap) m (cellsL sv m)) (hp : ∀ i, i < m → Prts w (sv i)) : Svcs w (some ⟨g, 0, none⟩) m sv := by
  by_cases h0 : m = 0
  · exact .inl h0
  have hcell : ∀ j, j < m * 3 → w.cell? ⟨g, j, none⟩ = some (cellAt sv j) := by
    intro j hj
    rw [owned_cell h j hj, cellsL_get _ _ _ hj]
  refine .inr ⟨g, 0, rfl, lt_of_cell (hcell 0 (by omega)), fun i hi => ⟨?_, ?_, ?_, hp i hi⟩⟩
  · rw [Nat.zero_add, hcell _ (by omega), cellAt0]
  · rw [Nat.zero_add, hcell _ (by omega), cellAt1]
  · rw [Nat.zero_add, hcell _ (by omega), cellAt2]

/-- services with one put in at place 'at' -/
def insS (p : Nat) (f : Svc) (sv : Nat → Svc) (i : Nat) : Svc := if i < p then sv i else if i = p then f else sv (i - 1)
theorem insS_lt {p i : Nat} {f : Svc} {sv : Nat → Svc} (h : i < p) : insS p f sv i = sv i := if_pos h
theorem insS_at (p : Nat) (f : Svc) (sv : Nat → Svc) : insS p f sv p = f := by unfold insS; rw [if_neg (by omega), if_pos rfl]
theorem insS_succ {p i : Nat} {f : Svc} {sv : Nat → Svc} (h : p ≤ i) : insS p f sv (i + 1) = sv i := by unfold insS; rw [if_neg (by omega), if_neg (by omega)]; rfl

/-- the fresh service: its one port lies at block B + 2 -/
def frs (ns nm pnm : ByteArray) (port : Int) (B : Nat) : Svc := ⟨ns, nm, some ⟨B + 1 + 1, 0, none⟩, 1, 1, fun _ => pnm, fun _ => port⟩

/-- withPort's first loop: m services are out -/
structure WN (w wr : World) (n m : Nat) (sv : Nat → Svc) (ns nm pnm : ByteArray) (port : Int) : Prop where
  bel : Below w.heap.size w wr
  size : w.heap.size + 3 < wr.heap.size
  own : wr.ownsRow (w.heap.size + 1) 29 3 (.slice (some ⟨w.heap.size + 1, 0, none⟩) m (n + 1)) m (cellsL sv m)
  f0 : wr.cell? ⟨w.heap.size + 1 + 1 + 1, 0, none⟩ = some (.string ns)
  f1 : wr.cell? ⟨w.heap.size + 1 + 1 + 1, 1, none⟩ = some (.string nm)
  f2 : wr.cell? ⟨w.heap.size + 1 + 1 + 1, 2, none⟩ = some (.slice (some ⟨w.heap.size + 1 + 1, 0, none⟩) 1 1)
  p0 : wr.cell? ⟨w.heap.size + 1 + 1, 0, none⟩ = some (.string pnm)
  p1 : wr.cell? ⟨w.heap.size + 1 + 1, 1, none⟩ = some (.int .i64 port)
theorem WN.step {w wr w1 : World} {n m : Nat} {sv : Nat → Svc} {ns nm pnm : ByteArray} {port : Int} (h : WN w wr n m sv ns nm pnm port) {o : Obj} (hg : (wr.alloc o).grownBy w1 (some (w.heap.size + 1)))
    (ho : w1.ownsRow (w.heap.size + 1) 29 3 (.slice (some ⟨w.heap.size + 1, 0, none⟩) (m + 1) (n + 1)) (m + 1) (cellsL sv m ++ [.string (sv m).ns, .string (sv m).nm, .slice (sv m).pa (sv m).pl (sv m).pc])) : WN w w1 n (m + 1) sv ns nm pnm port := by
  have hs := h.size
  have hc : ∀ b t, b < wr.heap.size → b ≠ w.heap.size + 1 → w1.cell? ⟨b, t, none⟩ = wr.cell? ⟨b, t, none⟩ := by
    intro b t hb hne
    have e : w1.heap[b]? = (wr.alloc o).heap[b]? := hg.block b (by simp; omega) (by simp; exact hne)
    rw [Below.heap_alloc _ _ _ hb] at e
    exact World.cell?_of_block (a := ⟨b, t, none⟩) e
  have hsz : (wr.alloc o).heap.size ≤ w1.heap.size := hg.size
  rw [← cellsL_succ] at ho
  refine ⟨(h.bel.alloc h.bel.size o).grown hg (by simp; omega) (fun k hk => by cases hk; omega), by simp at hsz; omega, ho, ?_, ?_, ?_, ?_, ?_⟩
  · rw [hc _ _ (by omega) (by omega)]; exact h.f0
  · rw [hc _ _ (by omega) (by omega)]; exact h.f1
  · rw [hc _ _ (by omega) (by omega)]; exact h.f2
  · rw [hc _ _ (by omega) (by omega)]; exact h.p0
  · rw [hc _ _ (by omega) (by omega)]; exact h.p1

theorem WN.first (w : World) (n : Nat) (sv : Nat → Svc) (ns nm pnm : ByteArray) (port : Int) (hn : n + 1 ≤ maxLen) :
    WN w ((((w.alloc (.cells #[.string pnm, .int .i64 port] 46)).alloc (.cells (madeCells Z3 ((n + 1) * 3)) 29)).alloc (.cells #[.string pnm, .int .i64 port] 46)).alloc (.cells #[.string ns, .string nm, .slice (some ⟨w.heap.size + 1 + 1, 0, none⟩) 1 1] 29)) n 0 sv ns nm pnm port := by
  refine ⟨?_, by simp, ?_, by go_simp, by go_simp, by go_simp, by go_simp, by go_simp⟩
  · exact ((((Below.refl _ w).alloc (Nat.le_refl _) _).alloc (by simp) _).alloc (by simp; omega) _).alloc (by simp; omega) _
  · have h := World.ownsRow_made (base := w.heap.size + 1) (e := 29) (size := 3) (w.alloc (.cells #[.string pnm, .int .i64 port] 46)) (madeCells Z3 ((n + 1) * 3)) (n + 1) (by simp) hn (size_madeCells _ _)
    simp only [World.size_alloc] at h
    exact (h.alloc _).alloc _

def jS (p i : Nat) : Nat := if i ≤ p then i else i + 1
theorem jS_le {p i : Nat} (h : i ≤ p) : jS p i = i := if_pos h
theorem jS_gt {p i : Nat} (h : p < i) : jS p i = i + 1 := if_neg (by omega)

/-- what withPort hands back -/
def WP (n2 : Nat) (sv2 : Nat → Svc) (w' : World) (e : Ending) : Prop := ∃ g c, e = .returned (.slice (some ⟨g, 0, none⟩) n2 c) ∧ Svcs w' (some ⟨g, 0, none⟩) n2 sv2

set_option maxHeartbeats 1000000 in
theorem with_new (a : Option Addr) (n cap p : Nat) (sv : Nat → Svc) (ns nm pnm : ByteArray) (port : Int) (w : World) (hn : n ≤ 1048576) (hp : p ≤ n) (hs : Svcs w a n sv) :
    Calls Tryf.prog 14 #[.slice a n cap, .int .i64 (-1), .string ns, .string nm, .int .i64 p, .agg #[.string pnm, .int .i64 port]] w fun e w' => WP (n + 1) (insS p (frs ns nm pnm port w.heap.size) sv) w' e ∧ Below w.heap.size w w' := by
  have hmk : ∀ W : World, (Instr.makeSlice 22 (.int .i64 0) (.int .i64 ((n : Int) + 1))).run Tryf.prog W = .ok (.slice (some ⟨W.heap.size, 0, none⟩) 0 (n + 1)) (W.alloc (.cells (madeCells Z3 ((n + 1) * 3)) 29)) := fun W => by
    have := make22 (n + 1) (by omega) W
    rwa [Int.natCast_add] at this
  have HS : Hid (Svcs w a n sv) := hs
  clear hs
  obtain ⟨S, hS⟩ : ∃ S, S = insS p (frs ns nm pnm port w.heap.size) sv := ⟨_, rfl⟩
  rw [← hS]
  have S0 : Hid (∀ i, i < p → S i = sv i) := fun i hi => by rw [hS, insS_lt hi]
  have S1 : Hid (S p = frs ns nm pnm port w.heap.size) := by show S p = _; rw [hS, insS_at]
  have S2 : Hid (∀ i, p ≤ i → S (i + 1) = sv i) := fun i hi => by rw [hS, insS_succ hi]
  clear hS
  go_enter Tryf.func14, Tryf.ntmps14
  go_wp2
  clear hmk
  go_loopw [13, 15] (fun o i wr => ∃ k m : Nat, k ≤ n ∧ i = .int .i64 k ∧ o = .slice (some ⟨w.heap.size + 1, 0, none⟩) m (n + 1) ∧ Hid (m = jS p k) ∧ WN w wr n m S ns nm pnm port) (fun _ i _ => n - (intOf i).toNat)
  case atStart => exact ⟨0, 0, by omega, rfl, rfl, (jS_le (by omega)).symm, WN.first w n S ns nm pnm port (by unfold maxLen; omega)⟩
  case round =>
    obtain ⟨k, m, hk, rfl, rfl, HM, N⟩ := hrel
    by_cases hlt : k < n
    · have hs' := HS.out.below N.bel
      rcases hs' with h0 | ⟨b, off, rfl, hb, hc⟩
      · omega
      obtain ⟨c0, c1, c2, _⟩ := hc k hlt
      clear hc
      by_cases hkp : k = p
      · subst hkp
        obtain rfl : m = k := by rw [HM.out, jS_le (Nat.le_refl _)]
        have f0 := N.f0
        have f1 := N.f1
        have f2 := N.f2
        have hown := N.own.alloc (.cells #[.string ns, .string nm, .slice (some ⟨w.heap.size + 1 + 1, 0, none⟩) 1 1] 29)
        go_wp2_with (at_builtin; refine app22 _ rfl _ _ rfl (w.heap.size + 1) (w.heap.size + 1) m (n + 1) (cellsL S m) rfl hown (some ⟨wr.heap.size, 0, none⟩) 1 1 [.string ns, .string nm, .slice (some ⟨w.heap.size + 1 + 1, 0, none⟩) 1 1] rfl rfl (fun h => by cases h) (cell_three_new _ _ _ _ _) (one_three _ _ _ _ _) (by omega) ?_)
        intro w4 hown1 hg1
        have N1 : WN w w4 n (m + 1) S ns nm pnm port := N.step hg1 (by rw [S1.out]; exact hown1)
        clear c0 c1 c2 f0 f1 f2 hown hown1 hg1 N
        have hs' := HS.out.below N1.bel
        rcases hs' with h0 | ⟨b', off', hx, hb', hc⟩
        · omega
        obtain ⟨rfl, rfl⟩ : b = b' ∧ off = off' := by simpa using hx
        obtain ⟨c0, c1, c2, _⟩ := hc m hlt
        clear hc hx
        have hown := N1.own.alloc (.cells #[.string (sv m).ns, .string (sv m).nm, .slice (sv m).pa (sv m).pl (sv m).pc] 29)
        go_wp2_with (at_builtin; refine app22 _ rfl _ _ rfl (w.heap.size + 1) (w.heap.size + 1) (m + 1) (n + 1) (cellsL S (m + 1)) rfl hown (some ⟨w4.heap.size, 0, none⟩) 1 1 [.string (sv m).ns, .string (sv m).nm, .slice (sv m).pa (sv m).pl (sv m).pc] rfl rfl (fun h => by cases h) (cell_three_new _ _ _ _ _) (one_three _ _ _ _ _) (by omega) ?_)
        intro w5 hown1 hg1
        have N2 : WN w w5 n (m + 1 + 1) S ns nm pnm port := N1.step hg1 (by rw [S2.out m (Nat.le_refl _)]; exact hown1)
        go_wp2
        go_roundw
        case rel => exact ⟨m + 1, m + 1 + 1, by omega, by go_num, rfl, (jS_gt (by omega)).symm, N2⟩
        case measure => simp [intOf]; omega
      · have hkp' : ((k : Int) == (p : Int)) = false := by simp; omega
        have hSm : Hid (S m = sv k) := by
          show S m = sv k
          by_cases h : k < p
          · rw [HM.out, jS_le (by omega)]; exact S0.out k h
          · rw [HM.out, jS_gt (by omega)]; exact S2.out k (by omega)
        have hmn : m ≤ n := by rw [HM.out]; unfold jS; split <;> omega
        have hown := N.own.alloc (.cells #[.string (sv k).ns, .string (sv k).nm, .slice (sv k).pa (sv k).pl (sv k).pc] 29)
        go_wp2_with (at_builtin; refine app22 _ rfl _ _ rfl (w.heap.size + 1) (w.heap.size + 1) m (n + 1) (cellsL S m) rfl hown (some ⟨wr.heap.size, 0, none⟩) 1 1 [.string (sv k).ns, .string (sv k).nm, .slice (sv k).pa (sv k).pl (sv k).pc] rfl rfl (fun h => by cases h) (cell_three_new _ _ _ _ _) (one_three _ _ _ _ _) (by omega) ?_)
        intro w5 hown1 hg1
        have N2 : WN w w5 n (m + 1) S ns nm pnm port := N.step hg1 (by rw [hSm.out]; exact hown1)
        go_wp2
        go_roundw
        case rel => exact ⟨k + 1, m + 1, by omega, by go_num, rfl, by show m + 1 = jS p (k + 1); rw [HM.out]; unfold jS; split <;> split <;> omega, N2⟩
        case measure => simp [intOf]; omega
    · have hkk : n = k := by omega
      subst hkk
      have hprt : ∀ {W : World}, WN w W n (n + 1) S ns nm pnm port → ∀ i, i < n + 1 → Prts W (S i) := by
        intro W N' i hi
        by_cases h1 : i < p
        · rw [S0.out i h1]; exact (HS.out.below N'.bel).prts i (by omega)
        · by_cases h2 : i = p
          · subst h2
            rw [S1.out]
            have hz := N'.size
            exact .inr ⟨_, 0, rfl, by omega, fun j hj => by
              have : j < 1 := hj
              obtain rfl : j = 0 := by omega
              exact ⟨N'.p0, N'.p1⟩⟩
          · obtain ⟨q, rfl⟩ : ∃ q, i = q + 1 := ⟨i - 1, by omega⟩
            rw [S2.out q (by omega)]; exact (HS.out.below N'.bel).prts q (by omega)
      have HPR : Hid (∀ {W : World}, WN w W n (n + 1) S ns nm pnm port → ∀ i, i < n + 1 → Prts W (S i)) := hprt
      clear hprt
      by_cases hkp : p = n
      · subst hkp
        obtain rfl : m = p := by rw [HM.out, jS_le (Nat.le_refl _)]
        have f0 := N.f0
        have f1 := N.f1
        have f2 := N.f2
        have hown := N.own.alloc (.cells #[.string ns, .string nm, .slice (some ⟨w.heap.size + 1 + 1, 0, none⟩) 1 1] 29)
        go_wp2_with (at_builtin; refine app22 _ rfl _ _ rfl (w.heap.size + 1) (w.heap.size + 1) m (m + 1) (cellsL S m) rfl hown (some ⟨wr.heap.size, 0, none⟩) 1 1 [.string ns, .string nm, .slice (some ⟨w.heap.size + 1 + 1, 0, none⟩) 1 1] rfl rfl (fun h => by cases h) (cell_three_new _ _ _ _ _) (one_three _ _ _ _ _) (by omega) ?_)
        intro w4 hown1 hg1
        have N1 : WN w w4 m (m + 1) S ns nm pnm port := N.step hg1 (by rw [S1.out]; exact hown1)
        go_wp2
        go_ret
        exact ⟨⟨_, _, rfl, owned_svcs N1.own (HPR.out N1)⟩, N1.bel⟩
      · have hkp' : ((p : Int) == (n : Int)) = false := by simp; omega
        obtain rfl : m = n + 1 := by rw [HM.out, jS_gt (by omega)]
        go_wp2
        go_ret
        exact ⟨⟨_, _, rfl, owned_svcs N.own (HPR.out N)⟩, N.bel⟩
end Go.Proofs.Qxb6616015aFmt
