import Derived.Test.Qxb6616015aFmtToDoc
import Derived.Test.Qxb6616015aFmtCheckW
import Derived.Deep.RegionWith
namespace Go.Proofs.Qxb6616015aFmt
open Go.RowKit Go.Extern.Stop Go.Stop Go.Extern

def Z3 : Array Value := #[.string ⟨#[]⟩, .string ⟨#[]⟩, .slice none 0 0]
theorem Tryf.info29 : (Tryf.prog.info? 29).map (fun i => (i.zero, i.size, i.bytes)) = some (some (.agg Z3), 3, 56) := by kernel_rfl
theorem make22 (n : Nat) (hn : n ≤ 4194304) (w : World) : (Instr.makeSlice 22 (.int .i64 0) (.int .i64 (n : Int))).run Tryf.prog w = .ok (.slice (some ⟨w.heap.size, 0, none⟩) 0 n) (w.alloc (.cells (madeCells Z3 (n * 3)) 29)) := by
  obtain ⟨i, hi, hz, hs, hb⟩ := info_parts Tryf.info29
  have := run_make (P := Tryf.prog) w 22 29 i (.agg Z3) Tryf.underlying22 hi hz .i64 .i64 0 n (by omega) (by omega) (by rw [hb]; omega) (by omega)
  rw [hs] at this
  exact this

/-- cell j of the services' row -/
def cellAt (sv : Nat → Svc) (j : Nat) : Value :=
  if j % 3 = 0 then .string (sv (j / 3)).ns else if j % 3 = 1 then .string (sv (j / 3)).nm else .slice (sv (j / 3)).pa (sv (j / 3)).pl (sv (j / 3)).pc
def cellsL (sv : Nat → Svc) (n : Nat) : List Value := (List.range (n * 3)).map (cellAt sv)
theorem cellAt0 (sv : Nat → Svc) (i : Nat) : cellAt sv (i * 3) = .string (sv i).ns := by
  unfold cellAt; rw [if_pos (by omega), show i * 3 / 3 = i by omega]
theorem cellAt1 (sv : Nat → Svc) (i : Nat) : cellAt sv (i * 3 + 1) = .string (sv i).nm := by
  unfold cellAt; rw [if_neg (by omega), if_pos (by omega), show (i * 3 + 1) / 3 = i by omega]
theorem cellAt2 (sv : Nat → Svc) (i : Nat) : cellAt sv (i * 3 + 2) = .slice (sv i).pa (sv i).pl (sv i).pc := by
  unfold cellAt; rw [if_neg (by omega), if_neg (by omega), show (i * 3 + 2) / 3 = i by omega]
theorem cellsL_length (sv : Nat → Svc) (n : Nat) : (cellsL sv n).length = n * 3 := by simp [cellsL]
theorem cellsL_get (sv : Nat → Svc) (n j : Nat) (h : j < n * 3) : (cellsL sv n)[j]? = some (cellAt sv j) := by simp [cellsL, h]
theorem cellsL_one (sv : Nat → Svc) (n : Nat) : ∀ u ∈ cellsL sv n, u.oneCell' = true := by
  intro u hu
  simp only [cellsL, List.mem_map] at hu
  obtain ⟨j, _, rfl⟩ := hu
  unfold cellAt
  split
  · rfl
  · split <;> rfl
theorem cells_cell {w : World} {b off n : Nat} {sv : Nat → Svc} (hc : ∀ i, i < n → w.cell? ⟨b, off + i * 3, none⟩ = some (.string (sv i).ns) ∧ w.cell? ⟨b, off + i * 3 + 1, none⟩ = some (.string (sv i).nm) ∧ w.cell? ⟨b, off + i * 3 + 2, none⟩ = some (.slice (sv i).pa (sv i).pl (sv i).pc) ∧ Prts w (sv i)) :
    ∀ j, j < n * 3 → w.cell? ⟨b, off + j, none⟩ = some (cellAt sv j) := by
  intro j hj
  obtain ⟨c0, c1, c2, _⟩ := hc (j / 3) (by omega)
  rcases (show j = j / 3 * 3 ∨ j = j / 3 * 3 + 1 ∨ j = j / 3 * 3 + 2 by omega) with h | h | h
  · rw [h, cellAt0]; exact c0
  · rw [h, cellAt1, ← Nat.add_assoc]; exact c1
  · rw [h, cellAt2, ← Nat.add_assoc]; exact c2
/-- the services' cells as what an append is handed -/
theorem Svcs.src {w : World} {a : Option Addr} {n : Nat} {sv : Nat → Svc} (h : Svcs w a n sv) : ∀ ad, a = some ad → ∀ j u, (cellsL sv n)[j]? = some u → w.cell? (ad.add j) = some u := by
  intro ad ha j u hu
  have hj : j < n * 3 := by
    have := (List.getElem?_eq_some_iff.1 hu).1
    rwa [cellsL_length] at this
  rcases h with h0 | ⟨b, off, h1, h2, h3⟩
  · omega
  · rw [h1] at ha
    obtain rfl := Option.some.inj ha
    rw [cellsL_get _ _ _ hj] at hu
    rw [Addr.add_lit, cells_cell h3 j hj]
    exact hu
/-- two lists of services, one behind the other -/
def joinSv (sv sv' : Nat → Svc) (n : Nat) (i : Nat) : Svc := if i < n then sv i else sv' (i - n)
theorem joinSv_lt {sv sv' : Nat → Svc} {n i : Nat} (h : i < n) : joinSv sv sv' n i = sv i := if_pos h
theorem joinSv_ge (sv sv' : Nat → Svc) (n i : Nat) : joinSv sv sv' n (n + i) = sv' i := by unfold joinSv; rw [if_neg (by omega), show n + i - n = i by omega]
theorem owned_cell {w : World} {base g N cap : Nat} {e : TypeId} {size : Nat} {xs : List Value} (h : w.ownsRow base e size (.slice (some ⟨g, 0, none⟩) N cap) N xs) (j : Nat) (hj : j < N * size) : w.cell? ⟨g, j, none⟩ = xs[j]? := by
  obtain ⟨hl, h⟩ := h
  rcases h with ⟨h, _⟩ | ⟨g', cap', cur, hv, _, hg, _, _, _, ht⟩
  · cases h
  · obtain ⟨rfl, rfl⟩ : g = g' ∧ cap = cap' := by simpa using hv
    rw [← ht, List.getElem?_take_of_lt hj]
    simp [World.cell?, hg]
theorem joined_svcs {w : World} {base g n n' cap : Nat} {sv sv' : Nat → Svc} (h : w.ownsRow base 29 3 (.slice (some ⟨g, 0, none⟩) (n + n') cap) (n + n') (cellsL sv n ++ cellsL sv' n')) (hp : ∀ i, i < n → Prts w (sv i)) (hp' : ∀ i, i < n' → Prts w (sv' i)) :
    Svcs w (some ⟨g, 0, none⟩) (n + n') (joinSv sv sv' n) := by
  by_cases h0 : n + n' = 0
  · exact .inl h0
  have hcell : ∀ j, j < (n + n') * 3 → w.cell? ⟨g, j, none⟩ = some (cellAt (joinSv sv sv' n) j) := by
    intro j hj
    rw [owned_cell h j hj]
    by_cases hjn : j < n * 3
    · rw [List.getElem?_append_left (by rw [cellsL_length]; exact hjn), cellsL_get _ _ _ hjn]
      unfold cellAt
      rw [joinSv_lt (by omega)]
    · rw [List.getElem?_append_right (by rw [cellsL_length]; omega), cellsL_length, cellsL_get _ _ _ (by omega)]
      unfold cellAt
      rw [show j / 3 = n + (j - n * 3) / 3 by omega, joinSv_ge, show (j - n * 3) % 3 = j % 3 by omega]
  have hg : g < w.heap.size := lt_of_cell (hcell 0 (by omega))
  refine .inr ⟨g, 0, rfl, hg, fun i hi => ⟨?_, ?_, ?_, ?_⟩⟩
  · rw [Nat.zero_add, hcell _ (by omega), cellAt0]
  · rw [Nat.zero_add, hcell _ (by omega), cellAt1]
  · rw [Nat.zero_add, hcell _ (by omega), cellAt2]
  · by_cases hin : i < n
    · rw [joinSv_lt hin]; exact hp i hin
    · obtain ⟨k, rfl⟩ : ∃ k, i = n + k := ⟨i - n, by omega⟩
      rw [joinSv_ge]; exact hp' k (by omega)
theorem Svcs.prts {w : World} {a : Option Addr} {n : Nat} {sv : Nat → Svc} (h : Svcs w a n sv) : ∀ i, i < n → Prts w (sv i) := by
  intro i hi
  rcases h with h0 | ⟨_, _, _, _, h3⟩
  · omega
  · exact (h3 i hi).2.2.2
end Go.Proofs.Qxb6616015aFmt
