import Derived.Test.Qxb6616015aFmtWithA
namespace Go.Proofs.Qxb6616015aFmt
open Go.RowKit

theorem Tryf.info46 : (Tryf.prog.info? 46).map (fun i => (i.zero, i.size, i.bytes)) = some (some (.agg Z2), 2, 24) := by kernel_rfl
theorem make27 (n : Nat) (hn : n ≤ 4194304) (w : World) : (Instr.makeSlice 27 (.int .i64 0) (.int .i64 (n : Int))).run Tryf.prog w = .ok (.slice (some ⟨w.heap.size, 0, none⟩) 0 n) (w.alloc (.cells (madeCells Z2 (n * 2)) 46)) := by
  obtain ⟨i, hi, hz, hs, hb⟩ := info_parts Tryf.info46
  have := run_make (P := Tryf.prog) w 27 46 i (.agg Z2) Tryf.underlying27 hi hz .i64 .i64 0 n (by omega) (by omega) (by rw [hb]; omega) (by omega)
  rw [hs] at this
  exact this
theorem app27 (w : World) {ops : Array Oper} {rest : List Oper} {o : Oper} {a : Act} {Q : Exit → Act → World → Prop}
    (hg : o.guard = none) (s x : Operand) (hop : o.op = Op.call { callee := Callee.builtin Builtin.append, args := #[s, x], argTypes := #[27, 27] })
    (base g k cap : Nat) (xs : List Value) (hs : a.eval s = .slice (some ⟨g, 0, none⟩) k cap) (hown : w.ownsRow base 46 2 (.slice (some ⟨g, 0, none⟩) k cap) k xs) (ao : Option Addr) (m c : Nat) (news : List Value) (hx : a.eval x = .slice ao m c) (hn : news.length = m * 2)
    (hnone : ao = none → m = 0 ∧ c = 0) (hc : ∀ ad, ao = some ad → ∀ j u, news[j]? = some u → w.cell? (ad.add j) = some u) (h1c : ∀ u ∈ news, u.oneCell' = true) (b1 : k + m ≤ cap)
    (hK : ∀ w', w'.ownsRow base 46 2 (.slice (some ⟨g, 0, none⟩) (k + m) cap) (k + m) (xs ++ news) → w.grownBy w' (some g) → wpList Tryf.prog ops Q rest (a.put o.dst (.slice (some ⟨g, 0, none⟩) (k + m) cap)) w') :
    wpList Tryf.prog ops Q (o :: rest) a w := by
  obtain ⟨i3, hi3, _, hs3, _⟩ := info_parts Tryf.info46
  exact wpList_append_fits_any w hg s x 27 hop base 46 i3 2 Tryf.underlying27 hi3 hs3 g k cap xs hs hown ao m c news hx hn hnone hc h1c b1 hK

def pAt (pn : Nat → ByteArray) (pp : Nat → Int) (j : Nat) : Value := if j % 2 = 0 then .string (pn (j / 2)) else .int .i64 (pp (j / 2))
def pL (pn : Nat → ByteArray) (pp : Nat → Int) (n : Nat) : List Value := (List.range (n * 2)).map (pAt pn pp)
theorem pAt0 (pn : Nat → ByteArray) (pp : Nat → Int) (i : Nat) : pAt pn pp (i * 2) = .string (pn i) := by
  unfold pAt; rw [if_pos (by omega), show i * 2 / 2 = i by omega]
theorem pAt1 (pn : Nat → ByteArray) (pp : Nat → Int) (i : Nat) : pAt pn pp (i * 2 + 1) = .int .i64 (pp i) := by
  unfold pAt; rw [if_neg (by omega), show (i * 2 + 1) / 2 = i by omega]
theorem pL_succ (pn : Nat → ByteArray) (pp : Nat → Int) (m : Nat) : pL pn pp (m + 1) = pL pn pp m ++ [.string (pn m), .int .i64 (pp m)] := by
  unfold pL
  rw [show (m + 1) * 2 = m * 2 + 1 + 1 by omega, List.range_succ, List.range_succ]
  simp only [List.map_append, List.map_cons, List.map_nil, List.append_assoc, List.cons_append, List.nil_append]
  rw [pAt0, pAt1]
theorem cell_two_new' (w : World) (a b : Value) (t : TypeId) : ∀ ad, some (⟨w.heap.size, 0, none⟩ : Addr) = some ad → ∀ j u, [a, b][j]? = some u → (w.alloc (.cells #[a, b] t)).cell? (ad.add j) = some u := by
  intro ad had
  obtain rfl := Option.some.inj had
  exact cell_two_new w a b t
theorem one_two (a : ByteArray) (x : Int) : ∀ u ∈ [Value.string a, Value.int .i64 x], u.oneCell' = true := by
  intro u hu
  simp at hu
  rcases hu with rfl | rfl <;> rfl
def insG {α : Type} (p : Nat) (f : α) (g : Nat → α) (i : Nat) : α := if i < p then g i else if i = p then f else g (i - 1)
theorem insG_lt {α : Type} {p i : Nat} {f : α} {g : Nat → α} (h : i < p) : insG p f g i = g i := if_pos h
theorem insG_at {α : Type} (p : Nat) (f : α) (g : Nat → α) : insG p f g p = f := by unfold insG; rw [if_neg (by omega), if_pos rfl]
theorem insG_succ {α : Type} {p i : Nat} {f : α} {g : Nat → α} (h : p ≤ i) : insG p f g (i + 1) = g i := by unfold insG; rw [if_neg (by omega), if_neg (by omega)]; rfl

/-- the ports' row, being filled -/
structure PW (W wi : World) (PB c m : Nat) (qn : Nat → ByteArray) (qp : Nat → Int) : Prop where
  bel : Below PB W wi
  size : PB < wi.heap.size
  own : wi.ownsRow PB 46 2 (.slice (some ⟨PB, 0, none⟩) m c) m (pL qn qp m)
theorem PW.step {W wi w1 : World} {PB c m : Nat} {qn : Nat → ByteArray} {qp : Nat → Int} (h : PW W wi PB c m qn qp) {o : Obj} (hg : (wi.alloc o).grownBy w1 (some PB))
    (ho : w1.ownsRow PB 46 2 (.slice (some ⟨PB, 0, none⟩) (m + 1) c) (m + 1) (pL qn qp m ++ [.string (qn m), .int .i64 (qp m)])) : PW W w1 PB c (m + 1) qn qp := by
  have hs := h.size
  have hsz : (wi.alloc o).heap.size ≤ w1.heap.size := hg.size
  rw [← pL_succ] at ho
  exact ⟨(h.bel.alloc (by omega) o).grown hg (by simp; omega) (fun k hk => by cases hk; exact Nat.le_refl _), by simp at hsz; omega, ho⟩
theorem PW.first {W : World} {PB : Nat} (hB : PB = W.heap.size) (c : Nat) (hc : c ≤ maxLen) (qn : Nat → ByteArray) (qp : Nat → Int) : PW W (W.alloc (.cells (madeCells Z2 (c * 2)) 46)) PB c 0 qn qp := by
  subst hB
  exact ⟨(Below.refl _ _).alloc (Nat.le_refl _) _, by simp, World.ownsRow_made W _ c (Nat.le_refl _) hc (size_madeCells _ _)⟩
theorem PW.prts {W wi : World} {PB c m : Nat} {qn : Nat → ByteArray} {qp : Nat → Int} (h : PW W wi PB c m qn qp) (ns nm : ByteArray) : Prts wi ⟨ns, nm, some ⟨PB, 0, none⟩, m, c, qn, qp⟩ := by
  refine .inr ⟨PB, 0, rfl, h.size, fun j hj => ?_⟩
  have hj' : j < m := hj
  have e : ∀ t, t < m * 2 → wi.cell? ⟨PB, t, none⟩ = some (pAt qn qp t) := fun t ht => by
    rw [owned_cell h.own t ht]
    simp [pL, ht]
  rw [Nat.zero_add, e _ (by omega), e _ (by omega), pAt0, pAt1]
  exact ⟨rfl, rfl⟩

def updS (k : Nat) (f : Svc) (sv : Nat → Svc) (i : Nat) : Svc := if i = k then f else sv i
theorem updS_at (k : Nat) (f : Svc) (sv : Nat → Svc) : updS k f sv k = f := if_pos rfl
theorem updS_ne {k i : Nat} {f : Svc} {sv : Nat → Svc} (h : i ≠ k) : updS k f sv i = sv i := if_neg h

/-- withPort's second loop: i services are out; the k-th is s2 -/
structure WO (w wr : World) (n i k : Nat) (s2 : Svc) (sv : Nat → Svc) (pnm : ByteArray) (port : Int) : Prop where
  bel : Below w.heap.size w wr
  size : w.heap.size + 1 < wr.heap.size
  own : wr.ownsRow (w.heap.size + 1) 29 3 (.slice (some ⟨w.heap.size + 1, 0, none⟩) i (n + 1)) i (cellsL (updS k s2 sv) i)
  p0 : wr.cell? ⟨w.heap.size, 0, none⟩ = some (.string pnm)
  p1 : wr.cell? ⟨w.heap.size, 1, none⟩ = some (.int .i64 port)
  prt : k < i → Prts wr s2 ∧ (∀ b, s2.pa = some b → b.block ≠ w.heap.size + 1)

theorem Prts.grown {W w1 : World} {G : Nat} {s : Svc} {o : Obj} (h : Prts W s) (hne : ∀ b, s.pa = some b → b.block ≠ G) (hg : (W.alloc o).grownBy w1 (some G)) : Prts w1 s := by
  rcases h with h | ⟨b, off, h1, h2, h3⟩
  · exact .inl h
  · have hb := hne _ h1
    have e : w1.heap[b]? = W.heap[b]? := by
      have := hg.block b (by simp; omega) (by simp; exact hb)
      rwa [Below.heap_alloc _ _ _ h2] at this
    have hsz : (W.alloc o).heap.size ≤ w1.heap.size := hg.size
    refine .inr ⟨b, off, h1, by simp at hsz; omega, fun j hj => ?_⟩
    rw [World.cell?_of_block (a := ⟨b, off + j * 2, none⟩) e, World.cell?_of_block (a := ⟨b, off + j * 2 + 1, none⟩) e]
    exact h3 j hj
theorem WO.change {w wr : World} {n i k : Nat} {s2 : Svc} {sv : Nat → Svc} {pnm : ByteArray} {port : Int} (h : WO w wr n i k s2 sv pnm port) (hik : i ≤ k) (s3 : Svc) : WO w wr n i k s3 sv pnm port := by
  refine ⟨h.bel, h.size, ?_, h.p0, h.p1, fun hk => by omega⟩
  rw [cellsL_congr (sv' := updS k s2 sv) (fun t ht => by rw [updS_ne (by omega), updS_ne (by omega)])]
  exact h.own
theorem WO.step {w wr W w1 : World} {n i k : Nat} {s2 : Svc} {sv : Nat → Svc} {pnm : ByteArray} {port : Int} (h : WO w wr n i k s2 sv pnm port) (hW : Below wr.heap.size wr W) {o : Obj} (hg : (W.alloc o).grownBy w1 (some (w.heap.size + 1)))
    (ho : w1.ownsRow (w.heap.size + 1) 29 3 (.slice (some ⟨w.heap.size + 1, 0, none⟩) (i + 1) (n + 1)) (i + 1) (cellsL (updS k s2 sv) i ++ [.string (updS k s2 sv i).ns, .string (updS k s2 sv i).nm, .slice (updS k s2 sv i).pa (updS k s2 sv i).pl (updS k s2 sv i).pc]))
    (hp : i = k → Prts W s2 ∧ ∀ b, s2.pa = some b → b.block ≠ w.heap.size + 1) : WO w w1 n (i + 1) k s2 sv pnm port := by
  have hs := h.size
  have hws := hW.size
  have hsz : (W.alloc o).heap.size ≤ w1.heap.size := hg.size
  have hc : ∀ b t, b < wr.heap.size → b ≠ w.heap.size + 1 → w1.cell? ⟨b, t, none⟩ = wr.cell? ⟨b, t, none⟩ := by
    intro b t hb hne
    have e : w1.heap[b]? = (W.alloc o).heap[b]? := hg.block b (by simp; omega) (by simp; exact hne)
    rw [Below.heap_alloc _ _ _ (by omega), hW.block b hb] at e
    exact World.cell?_of_block (a := ⟨b, t, none⟩) e
  rw [← cellsL_succ] at ho
  have hbW : Below w.heap.size w W := h.bel.trans (hW.mono h.bel.size)
  refine ⟨(hbW.alloc hbW.size o).grown hg (by simp; omega) (fun k hk => by cases hk; omega), by simp at hsz; omega, ho, ?_, ?_, fun hk => ?_⟩
  · rw [hc _ _ (by omega) (by omega)]; exact h.p0
  · rw [hc _ _ (by omega) (by omega)]; exact h.p1
  · by_cases e : i = k
    · obtain ⟨h1, h2⟩ := hp e
      exact ⟨h1.grown h2 hg, h2⟩
    · obtain ⟨h1, h2⟩ := h.prt (by omega)
      exact ⟨(h1.below hW).grown h2 hg, h2⟩
theorem WO.first (w : World) (n k : Nat) (s2 : Svc) (sv : Nat → Svc) (pnm : ByteArray) (port : Int) (hn : n + 1 ≤ maxLen) :
    WO w ((w.alloc (.cells #[.string pnm, .int .i64 port] 46)).alloc (.cells (madeCells Z3 ((n + 1) * 3)) 29)) n 0 k s2 sv pnm port := by
  refine ⟨((Below.refl _ w).alloc (Nat.le_refl _) _).alloc (by simp) _, by simp, ?_, by go_simp, by go_simp, fun hk => by omega⟩
  have h := World.ownsRow_made (base := w.heap.size + 1) (e := 29) (size := 3) (w.alloc (.cells #[.string pnm, .int .i64 port] 46)) (madeCells Z3 ((n + 1) * 3)) (n + 1) (by simp) hn (size_madeCells _ _)
  simp only [World.size_alloc] at h
  exact h

/-- the service with the port put in -/
def GoodS (s s2 : Svc) (port : Int) : Prop := s2.ns = s.ns ∧ s2.nm = s.nm ∧ s2.pl = s.pl + 1 ∧ ∃ j, j < s2.pl ∧ s2.pp j = port
/-- what withPort hands back where the service was there -/
def WQ (n k : Nat) (sv : Nat → Svc) (port : Int) (w' : World) (e : Ending) : Prop := ∃ g c s2, GoodS (sv k) s2 port ∧ e = .returned (.slice (some ⟨g, 0, none⟩) n c) ∧ Svcs w' (some ⟨g, 0, none⟩) n (updS k s2 sv)

set_option maxRecDepth 8000 in
set_option maxHeartbeats 2000000 in
theorem with_old (a : Option Addr) (n cap k p : Nat) (sv : Nat → Svc) (ns nm pnm : ByteArray) (port : Int) (w : World) (hn : n ≤ 1048576) (hkn : k < n) (hpl : (sv k).pl ≤ 1048576) (hp : p ≤ (sv k).pl) (hs : Svcs w a n sv) :
    Calls Tryf.prog 14 #[.slice a n cap, .int .i64 k, .string ns, .string nm, .int .i64 p, .agg #[.string pnm, .int .i64 port]] w fun e w' => WQ n k sv port w' e ∧ Below w.heap.size w w' := by
  have hmk : ∀ W : World, (Instr.makeSlice 22 (.int .i64 0) (.int .i64 ((n : Int) + 1))).run Tryf.prog W = .ok (.slice (some ⟨W.heap.size, 0, none⟩) 0 (n + 1)) (W.alloc (.cells (madeCells Z3 ((n + 1) * 3)) 29)) := fun W => by
    have := make22 (n + 1) (by omega) W
    rwa [Int.natCast_add] at this
  have HS : Hid (Svcs w a n sv) := hs
  have HPL : Hid ((sv k).pl ≤ 1048576 ∧ p ≤ (sv k).pl) := ⟨hpl, hp⟩
  clear hs hpl hp
  go_enter Tryf.func14, Tryf.ntmps14
  go_wp2
  clear hmk
  go_loopw [13, 16] (fun o i wr => ∃ (i' : Nat) (s2 : Svc), i' ≤ n ∧ i = .int .i64 i' ∧ o = .slice (some ⟨w.heap.size + 1, 0, none⟩) i' (n + 1) ∧ Hid (k < i' → GoodS (sv k) s2 port) ∧ WO w wr n i' k s2 sv pnm port) (fun _ i _ => n - (intOf i).toNat)
  case atStart => exact ⟨0, sv k, by omega, rfl, rfl, (fun h => by omega), WO.first w n k (sv k) sv pnm port (by unfold maxLen; omega)⟩
  case round =>
    obtain ⟨i, s2, hi, rfl, rfl, HG, N⟩ := hrel
    obtain ⟨wo, rfl⟩ : ∃ wo : World, wo = wr := ⟨_, rfl⟩
    by_cases hlt : i < n
    · have hs' := HS.out.below N.bel
      rcases hs' with h0 | ⟨b, off, rfl, hb, hc⟩
      · omega
      obtain ⟨c0, c1, c2, P⟩ := hc i hlt
      clear hc
      by_cases hik : i = k
      · subst hik
        obtain ⟨s, hsk⟩ : ∃ s, s = sv i := ⟨_, rfl⟩
        have hpl := HPL.out
        rw [← hsk] at c0 c1 c2 P hpl
        have HK : Hid (s = sv i) := hsk
        clear hsk HPL
        obtain ⟨sns, snm, pa, pl, pc, pn, pp⟩ := s
        simp only at c0 c1 c2 hpl
        simp only [Prts] at P
        obtain ⟨hpl1, hpl2⟩ := hpl
        have hW : Below wo.heap.size wo (wo.alloc (.cells #[.string sns, .string snm, .slice pa pl pc] 29)) := (Below.refl _ _).alloc (Nat.le_refl _) _
        have hmk : ∀ W : World, (Instr.makeSlice 27 (.int .i64 0) (.int .i64 ((pl : Int) + 1))).run Tryf.prog W = .ok (.slice (some ⟨W.heap.size, 0, none⟩) 0 (pl + 1)) (W.alloc (.cells (madeCells Z2 ((pl + 1) * 2)) 46)) := fun W => by
          have := make27 (pl + 1) (by omega) W
          rwa [Int.natCast_add] at this
        have Q0 := PW.first (W := wo.alloc (.cells #[.string sns, .string snm, .slice pa pl pc] 29)) (PB := wo.heap.size + 1) (by simp) (pl + 1) (by unfold maxLen; omega) (insG p pnm pn) (insG p port pp)
        have hwoz := N.size
        have hp0 := N.p0
        have hp1 := N.p1
        go_wp2
        clear hmk c0 c1 c2
        go_loopw [19, 20] (fun o j wi => ∃ j' m : Nat, j' ≤ pl ∧ j = .int .i64 j' ∧ o = .slice (some ⟨wo.heap.size + 1, 0, none⟩) m (pl + 1) ∧ Hid (m = jS p j') ∧ PW (wo.alloc (.cells #[.string sns, .string snm, .slice pa pl pc] 29)) wi (wo.heap.size + 1) (pl + 1) m (insG p pnm pn) (insG p port pp)) (fun _ j _ => pl - (intOf j).toNat)
        case atStart => exact ⟨0, 0, by omega, rfl, rfl, (jS_le (by omega)).symm, Q0⟩
        case round =>
          clear Q0
          obtain ⟨j, m, hj, rfl, rfl, HM, Q⟩ := hrel
          have hbq : ∀ {W : World}, PW (wo.alloc (.cells #[.string sns, .string snm, .slice pa pl pc] 29)) W (wo.heap.size + 1) (pl + 1) (if True then m else m) (insG p pnm pn) (insG p port pp) → True := fun _ => trivial
          clear hbq
          have q0 : wr.cell? ⟨w.heap.size, 0, none⟩ = some (.string pnm) := by rw [Q.bel.cell (p := ⟨w.heap.size, 0, none⟩) (by show w.heap.size < _; omega), hW.cell (p := ⟨w.heap.size, 0, none⟩) (by show w.heap.size < _; omega)]; exact hp0
          have q1 : wr.cell? ⟨w.heap.size, 1, none⟩ = some (.int .i64 port) := by rw [Q.bel.cell (p := ⟨w.heap.size, 1, none⟩) (by show w.heap.size < _; omega), hW.cell (p := ⟨w.heap.size, 1, none⟩) (by show w.heap.size < _; omega)]; exact hp1
          by_cases hjl : j < pl
          · rcases P with h0 | ⟨pb, po, rfl, hpb, hpc⟩
            · omega
            obtain ⟨e0, e1⟩ := hpc j hjl
            clear hpc
            by_cases hjp : j = p
            · subst hjp
              obtain rfl : m = j := by rw [HM.out, jS_le (Nat.le_refl _)]
              have hown := Q.own.alloc (.cells #[.string pnm, .int .i64 port] 46)
              go_wp2_with (at_builtin; refine app27 _ rfl _ _ rfl (wo.heap.size + 1) (wo.heap.size + 1) m (pl + 1) (pL (insG m pnm pn) (insG m port pp) m) rfl hown (some ⟨wr.heap.size, 0, none⟩) 1 1 [.string pnm, .int .i64 port] rfl rfl (fun h => by cases h) (cell_two_new' _ _ _ _) (one_two _ _) (by omega) ?_)
              intro w4 hown1 hg1
              have Q1 := Q.step hg1 (by rw [insG_at, insG_at]; exact hown1)
              clear q0 q1 hown hown1 hg1 Q
              have e0' : w4.cell? ⟨pb, po + m * 2, none⟩ = some (.string (pn m)) := by rw [Q1.bel.cell (p := ⟨pb, po + m * 2, none⟩) (by show pb < _; omega), hW.cell (p := ⟨pb, po + m * 2, none⟩) hpb]; exact e0
              have e1' : w4.cell? ⟨pb, po + m * 2 + 1, none⟩ = some (.int .i64 (pp m)) := by rw [Q1.bel.cell (p := ⟨pb, po + m * 2 + 1, none⟩) (by show pb < _; omega), hW.cell (p := ⟨pb, po + m * 2 + 1, none⟩) hpb]; exact e1
              have hown := Q1.own.alloc (.cells #[.string (pn m), .int .i64 (pp m)] 46)
              go_wp2_with (at_builtin; refine app27 _ rfl _ _ rfl (wo.heap.size + 1) (wo.heap.size + 1) (m + 1) (pl + 1) (pL (insG m pnm pn) (insG m port pp) (m + 1)) rfl hown (some ⟨w4.heap.size, 0, none⟩) 1 1 [.string (pn m), .int .i64 (pp m)] rfl rfl (fun h => by cases h) (cell_two_new' _ _ _ _) (one_two _ _) (by omega) ?_)
              intro w5 hown1 hg1
              have Q2 := Q1.step hg1 (by rw [insG_succ (Nat.le_refl _), insG_succ (Nat.le_refl _)]; exact hown1)
              go_wp2
              go_roundw
              case rel => exact ⟨m + 1, m + 1 + 1, by omega, by go_num, rfl, (jS_gt (by omega)).symm, Q2⟩
              case measure => simp [intOf]; omega
            · have hjp' : ((j : Int) == (p : Int)) = false := by simp; omega
              have hq : Hid (insG p pnm pn m = pn j ∧ insG p port pp m = pp j) := by
                by_cases h : j < p
                · have e : m = j := by rw [HM.out, jS_le (by omega)]
                  rw [e]; exact ⟨insG_lt h, insG_lt h⟩
                · have e : m = j + 1 := by rw [HM.out, jS_gt (by omega)]
                  rw [e]; exact ⟨insG_succ (by omega), insG_succ (by omega)⟩
              have hmn : m ≤ pl := by rw [HM.out]; unfold jS; split <;> omega
              have e0' : wr.cell? ⟨pb, po + j * 2, none⟩ = some (.string (pn j)) := by rw [Q.bel.cell (p := ⟨pb, po + j * 2, none⟩) (by show pb < _; omega), hW.cell (p := ⟨pb, po + j * 2, none⟩) hpb]; exact e0
              have e1' : wr.cell? ⟨pb, po + j * 2 + 1, none⟩ = some (.int .i64 (pp j)) := by rw [Q.bel.cell (p := ⟨pb, po + j * 2 + 1, none⟩) (by show pb < _; omega), hW.cell (p := ⟨pb, po + j * 2 + 1, none⟩) hpb]; exact e1
              have hown := Q.own.alloc (.cells #[.string (pn j), .int .i64 (pp j)] 46)
              go_wp2_with (at_builtin; refine app27 _ rfl _ _ rfl (wo.heap.size + 1) (wo.heap.size + 1) m (pl + 1) (pL (insG p pnm pn) (insG p port pp) m) rfl hown (some ⟨wr.heap.size, 0, none⟩) 1 1 [.string (pn j), .int .i64 (pp j)] rfl rfl (fun h => by cases h) (cell_two_new' _ _ _ _) (one_two _ _) (by omega) ?_)
              intro w5 hown1 hg1
              have Q2 := Q.step hg1 (by rw [hq.out.1, hq.out.2]; exact hown1)
              go_wp2
              go_roundw
              case rel => exact ⟨j + 1, m + 1, by omega, by go_num, rfl, by show m + 1 = jS p (j + 1); rw [HM.out]; unfold jS; split <;> split <;> omega, Q2⟩
              case measure => simp [intOf]; omega
          · have hjj : pl = j := by omega
            subst hjj
            by_cases hkp : p = pl
            · subst hkp
              obtain rfl : m = p := by rw [HM.out, jS_le (Nat.le_refl _)]
              have hown := Q.own.alloc (.cells #[.string pnm, .int .i64 port] 46)
              go_wp2_with (at_builtin; refine app27 _ rfl _ _ rfl (wo.heap.size + 1) (wo.heap.size + 1) m (m + 1) (pL (insG m pnm pn) (insG m port pp) m) rfl hown (some ⟨wr.heap.size, 0, none⟩) 1 1 [.string pnm, .int .i64 port] rfl rfl (fun h => by cases h) (cell_two_new' _ _ _ _) (one_two _ _) (by omega) ?_)
              intro w4 hown1 hg1
              have Q1 := Q.step hg1 (by rw [insG_at, insG_at]; exact hown1)
              clear q0 q1 hown hown1 hg1 Q HM
              have hz0 : w.heap.size + 1 < w4.heap.size := by have := N.size; have := Q1.size; omega
              have k0 : w4.cell? ⟨wo.heap.size, 0, none⟩ = some (.string sns) := by rw [Q1.bel.cell (p := ⟨wo.heap.size, 0, none⟩) (by show wo.heap.size < _; omega)]; go_simp
              have k1 : w4.cell? ⟨wo.heap.size, 1, none⟩ = some (.string snm) := by rw [Q1.bel.cell (p := ⟨wo.heap.size, 1, none⟩) (by show wo.heap.size < _; omega)]; go_simp
              have k2 : w4.cell? ⟨wo.heap.size, 2, none⟩ = some (.slice pa m pc) := by rw [Q1.bel.cell (p := ⟨wo.heap.size, 2, none⟩) (by show wo.heap.size < _; omega)]; go_simp
              have kf : w4.frozen? ⟨wo.heap.size, 2, none⟩ = false := by rw [Q1.bel.frozen (p := ⟨wo.heap.size, 2, none⟩) (by show wo.heap.size < _; omega)]; go_simp
              have hWi : Below wo.heap.size wo (w4.setCell ⟨wo.heap.size, 2, none⟩ (.slice (some ⟨wo.heap.size + 1, 0, none⟩) (m + 1) (m + 1))) := (hW.trans (Q1.bel.mono (by omega))).setCell (Nat.le_refl _) _
              obtain ⟨s3, hs3⟩ : ∃ s3 : Svc, s3 = ⟨sns, snm, some ⟨wo.heap.size + 1, 0, none⟩, m + 1, m + 1, insG m pnm pn, insG m port pp⟩ := ⟨_, rfl⟩
              have N1 := N.change (Nat.le_refl _) s3
              have hp3 : Prts (w4.setCell ⟨wo.heap.size, 2, none⟩ (.slice (some ⟨wo.heap.size + 1, 0, none⟩) (m + 1) (m + 1))) s3 := by
                rcases Q1.prts sns snm with h | ⟨b', off', h1, h2, h3⟩
                · exact absurd h (by show ¬ (m + 1 = 0); omega)
                · rw [hs3]
                  obtain ⟨rfl, rfl⟩ : b' = wo.heap.size + 1 ∧ off' = 0 := by
                    have e : (some (⟨wo.heap.size + 1, 0, none⟩ : Addr)) = some ⟨b', off', none⟩ := h1
                    simp at e
                    exact ⟨e.1.symm, e.2.symm⟩
                  refine .inr ⟨_, _, h1, by simpa using h2, fun j hj => ?_⟩
                  rw [World.cell?_setCell_other _ _ _ _ (addr_ne' (by omega)), World.cell?_setCell_other _ _ _ _ (addr_ne' (by omega))]
                  exact h3 j hj
              have hne3 : ∀ b, s3.pa = some b → b.block ≠ w.heap.size + 1 := by
                intro b' hb'
                rw [hs3] at hb'
                have e : (some (⟨wo.heap.size + 1, 0, none⟩ : Addr)) = some b' := hb'
                obtain rfl := Option.some.inj e
                have := N.size
                show wo.heap.size + 1 ≠ w.heap.size + 1
                omega
              have hgood : GoodS (sv i) s3 port := by
                rw [← HK.out, hs3]
                exact ⟨rfl, rfl, rfl, m, by show m < m + 1; omega, insG_at _ _ _⟩
              have hnn : wo.heap.size ≠ w.heap.size + 1 := by have := N.size; omega
              have hown0 : (w4.setCell ⟨wo.heap.size, 2, none⟩ (.slice (some ⟨wo.heap.size + 1, 0, none⟩) (m + 1) (m + 1))).ownsRow (w.heap.size + 1) 29 3 (.slice (some ⟨w.heap.size + 1, 0, none⟩) i (n + 1)) i (cellsL (updS i s3 sv) i) :=
                N1.own.kept (row := none) ⟨hWi.os, hWi.tape, hWi.output, hWi.size, fun k hk _ => hWi.block k hk⟩ (.inr (by simp [Value.ownBlock]))
              have hown := hown0.alloc (.cells #[.string sns, .string snm, .slice (some ⟨wo.heap.size + 1, 0, none⟩) (m + 1) (m + 1)] 29)
              have hnews := cell_three_new (w4.setCell ⟨wo.heap.size, 2, none⟩ (.slice (some ⟨wo.heap.size + 1, 0, none⟩) (m + 1) (m + 1))) (.string sns) (.string snm) (.slice (some ⟨wo.heap.size + 1, 0, none⟩) (m + 1) (m + 1)) 29
              simp only [World.size_setCell] at hnews
              have HNW : Hid (∀ ad, some (⟨w4.heap.size, 0, none⟩ : Addr) = some ad → ∀ j u, [Value.string sns, Value.string snm, Value.slice (some ⟨wo.heap.size + 1, 0, none⟩) (m + 1) (m + 1)][j]? = some u → ((w4.setCell ⟨wo.heap.size, 2, none⟩ (.slice (some ⟨wo.heap.size + 1, 0, none⟩) (m + 1) (m + 1))).alloc (.cells #[.string sns, .string snm, .slice (some ⟨wo.heap.size + 1, 0, none⟩) (m + 1) (m + 1)] 29)).cell? (ad.add j) = some u) := hnews
              clear hnews Q1 N hW hown0
              have HS3 : Hid (s3 = _) := hs3
              clear hs3
              go_wp2_with (at_builtin; refine app22 _ rfl _ _ rfl (w.heap.size + 1) (w.heap.size + 1) i (n + 1) (cellsL (updS i s3 sv) i) rfl hown (some ⟨w4.heap.size, 0, none⟩) 1 1 [.string sns, .string snm, .slice (some ⟨wo.heap.size + 1, 0, none⟩) (m + 1) (m + 1)] rfl rfl (fun h => by cases h) HNW.out (one_three _ _ _ _ _) (by omega) ?_)
              intro w5 hown1 hg1
              have N2 := N1.step hWi hg1 (by rw [updS_at, HS3.out]; rw [HS3.out] at hown1; exact hown1) (fun _ => ⟨hp3, hne3⟩)
              clear hne3 hp3 hown hown1 hg1 HNW N1 hnn k0 k1 k2 kf hWi
              go_wp2
              go_roundw
              case rel => exact ⟨i + 1, s3, by omega, by go_num, rfl, (fun _ => hgood), N2⟩
              case measure => simp [intOf]; omega
            · have hkp' : ((p : Int) == (pl : Int)) = false := by simp; omega
              obtain rfl : m = pl + 1 := by rw [HM.out, jS_gt (by omega)]
              clear q0 q1 HM
              have hz0 : w.heap.size + 1 < wr.heap.size := by have := N.size; have := Q.size; omega
              have k0 : wr.cell? ⟨wo.heap.size, 0, none⟩ = some (.string sns) := by rw [Q.bel.cell (p := ⟨wo.heap.size, 0, none⟩) (by show wo.heap.size < _; omega)]; go_simp
              have k1 : wr.cell? ⟨wo.heap.size, 1, none⟩ = some (.string snm) := by rw [Q.bel.cell (p := ⟨wo.heap.size, 1, none⟩) (by show wo.heap.size < _; omega)]; go_simp
              have k2 : wr.cell? ⟨wo.heap.size, 2, none⟩ = some (.slice pa pl pc) := by rw [Q.bel.cell (p := ⟨wo.heap.size, 2, none⟩) (by show wo.heap.size < _; omega)]; go_simp
              have kf : wr.frozen? ⟨wo.heap.size, 2, none⟩ = false := by rw [Q.bel.frozen (p := ⟨wo.heap.size, 2, none⟩) (by show wo.heap.size < _; omega)]; go_simp
              have hWi : Below wo.heap.size wo (wr.setCell ⟨wo.heap.size, 2, none⟩ (.slice (some ⟨wo.heap.size + 1, 0, none⟩) (pl + 1) (pl + 1))) := (hW.trans (Q.bel.mono (by omega))).setCell (Nat.le_refl _) _
              obtain ⟨s3, hs3⟩ : ∃ s3 : Svc, s3 = ⟨sns, snm, some ⟨wo.heap.size + 1, 0, none⟩, pl + 1, pl + 1, insG p pnm pn, insG p port pp⟩ := ⟨_, rfl⟩
              have N1 := N.change (Nat.le_refl _) s3
              have hp3 : Prts (wr.setCell ⟨wo.heap.size, 2, none⟩ (.slice (some ⟨wo.heap.size + 1, 0, none⟩) (pl + 1) (pl + 1))) s3 := by
                rcases Q.prts sns snm with h | ⟨b', off', h1, h2, h3⟩
                · exact absurd h (by show ¬ (pl + 1 = 0); omega)
                · rw [hs3]
                  obtain ⟨rfl, rfl⟩ : b' = wo.heap.size + 1 ∧ off' = 0 := by
                    have e : (some (⟨wo.heap.size + 1, 0, none⟩ : Addr)) = some ⟨b', off', none⟩ := h1
                    simp at e
                    exact ⟨e.1.symm, e.2.symm⟩
                  refine .inr ⟨_, _, h1, by simpa using h2, fun j hj => ?_⟩
                  rw [World.cell?_setCell_other _ _ _ _ (addr_ne' (by omega)), World.cell?_setCell_other _ _ _ _ (addr_ne' (by omega))]
                  exact h3 j hj
              have hne3 : ∀ b, s3.pa = some b → b.block ≠ w.heap.size + 1 := by
                intro b' hb'
                rw [hs3] at hb'
                have e : (some (⟨wo.heap.size + 1, 0, none⟩ : Addr)) = some b' := hb'
                obtain rfl := Option.some.inj e
                have := N.size
                show wo.heap.size + 1 ≠ w.heap.size + 1
                omega
              have hgood : GoodS (sv i) s3 port := by
                rw [← HK.out, hs3]
                exact ⟨rfl, rfl, rfl, p, by show p < pl + 1; omega, insG_at _ _ _⟩
              have hnn : wo.heap.size ≠ w.heap.size + 1 := by have := N.size; omega
              have hown0 : (wr.setCell ⟨wo.heap.size, 2, none⟩ (.slice (some ⟨wo.heap.size + 1, 0, none⟩) (pl + 1) (pl + 1))).ownsRow (w.heap.size + 1) 29 3 (.slice (some ⟨w.heap.size + 1, 0, none⟩) i (n + 1)) i (cellsL (updS i s3 sv) i) :=
                N1.own.kept (row := none) ⟨hWi.os, hWi.tape, hWi.output, hWi.size, fun k hk _ => hWi.block k hk⟩ (.inr (by simp [Value.ownBlock]))
              have hown := hown0.alloc (.cells #[.string sns, .string snm, .slice (some ⟨wo.heap.size + 1, 0, none⟩) (pl + 1) (pl + 1)] 29)
              have hnews := cell_three_new (wr.setCell ⟨wo.heap.size, 2, none⟩ (.slice (some ⟨wo.heap.size + 1, 0, none⟩) (pl + 1) (pl + 1))) (.string sns) (.string snm) (.slice (some ⟨wo.heap.size + 1, 0, none⟩) (pl + 1) (pl + 1)) 29
              simp only [World.size_setCell] at hnews
              have HNW : Hid (∀ ad, some (⟨wr.heap.size, 0, none⟩ : Addr) = some ad → ∀ j u, [Value.string sns, Value.string snm, Value.slice (some ⟨wo.heap.size + 1, 0, none⟩) (pl + 1) (pl + 1)][j]? = some u → ((wr.setCell ⟨wo.heap.size, 2, none⟩ (.slice (some ⟨wo.heap.size + 1, 0, none⟩) (pl + 1) (pl + 1))).alloc (.cells #[.string sns, .string snm, .slice (some ⟨wo.heap.size + 1, 0, none⟩) (pl + 1) (pl + 1)] 29)).cell? (ad.add j) = some u) := hnews
              clear hnews Q N hW hown0
              have HS3 : Hid (s3 = _) := hs3
              clear hs3
              go_wp2_with (at_builtin; refine app22 _ rfl _ _ rfl (w.heap.size + 1) (w.heap.size + 1) i (n + 1) (cellsL (updS i s3 sv) i) rfl hown (some ⟨wr.heap.size, 0, none⟩) 1 1 [.string sns, .string snm, .slice (some ⟨wo.heap.size + 1, 0, none⟩) (pl + 1) (pl + 1)] rfl rfl (fun h => by cases h) HNW.out (one_three _ _ _ _ _) (by omega) ?_)
              intro w5 hown1 hg1
              have N2 := N1.step hWi hg1 (by rw [updS_at, HS3.out]; rw [HS3.out] at hown1; exact hown1) (fun _ => ⟨hp3, hne3⟩)
              clear hne3 hp3 hown hown1 hg1 HNW N1 hnn k0 k1 k2 kf hWi
              go_wp2
              go_roundw
              case rel => exact ⟨i + 1, s3, by omega, by go_num, rfl, (fun _ => hgood), N2⟩
              case measure => simp [intOf]; omega
      · have hik' : ((i : Int) == (k : Int)) = false := by simp; omega
        have hW : Below wo.heap.size wo (wo.alloc (.cells #[.string (sv i).ns, .string (sv i).nm, .slice (sv i).pa (sv i).pl (sv i).pc] 29)) := (Below.refl _ _).alloc (Nat.le_refl _) _
        have hown := (N.own.alloc (.cells #[.string (sv i).ns, .string (sv i).nm, .slice (sv i).pa (sv i).pl (sv i).pc] 29)).alloc (.cells #[.string (sv i).ns, .string (sv i).nm, .slice (sv i).pa (sv i).pl (sv i).pc] 29)
        go_wp2_with (at_builtin; refine app22 _ rfl _ _ rfl (w.heap.size + 1) (w.heap.size + 1) i (n + 1) (cellsL (updS k s2 sv) i) rfl hown (some ⟨wo.heap.size + 1, 0, none⟩) 1 1 [.string (sv i).ns, .string (sv i).nm, .slice (sv i).pa (sv i).pl (sv i).pc] rfl rfl (fun h => by cases h) (by have := cell_three_new (wo.alloc (.cells #[.string (sv i).ns, .string (sv i).nm, .slice (sv i).pa (sv i).pl (sv i).pc] 29)) (.string (sv i).ns) (.string (sv i).nm) (.slice (sv i).pa (sv i).pl (sv i).pc) 29; simpa using this) (one_three _ _ _ _ _) (by omega) ?_)
        intro w5 hown1 hg1
        have N2 := N.step hW hg1 (by rw [updS_ne hik]; exact hown1) (fun h => absurd h hik)
        go_wp2
        go_roundw
        case rel => exact ⟨i + 1, s2, by omega, by go_num, rfl, (fun h => HG.out (by omega)), N2⟩
        case measure => simp [intOf]; omega
    · have hkk : n = i := by omega
      subst hkk
      go_wp2
      go_ret
      refine ⟨⟨_, _, s2, HG.out hkn, rfl, owned_svcs N.own (fun j hj => ?_)⟩, N.bel⟩
      by_cases e : j = k
      · subst e; rw [updS_at]; exact (N.prt hkn).1
      · rw [updS_ne e]; exact (HS.out.below N.bel).prts j hj
end Go.Proofs.Qxb6616015aFmt
