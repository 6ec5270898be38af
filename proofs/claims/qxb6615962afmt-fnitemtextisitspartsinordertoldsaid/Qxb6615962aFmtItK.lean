import Derived.Test.Qxb6615962aFmtItD
import Derived.Test.Qxb6615962aFmtItE
import Derived.Test.Qxb6615962aFmtItH
import Derived.Test.Qxb6615962aFmtItI
import Derived.Test.Qxb6615962aFmtItJ
import Derived.Lib.AppendIntMem
namespace Go.Proofs.Qxb6615962aFmt
open Go.RowKit Go.Stop
/-- what the roads read of the package-level variables, and fmt's answers -/
structure Env (F : Interp) (w : World) : Prop where
  tab : Tab64 w
  pow : Lib.TabIs Tryf.prog w "internal/strconv.uint64pow10" .u64 Lib.pow10Tab
  days : Days w
  ans : F.told.answers w.tape
theorem Env.pos {F : Interp} {w : World} (h : Env F w) : 0 < w.heap.size := by
  have := h.tab 0 (by omega)
  exact World.block_lt_of_cell? w ⟨0, 0, none⟩ this
theorem Env.below {F : Interp} {w w' : World} (h : Env F w) (hb : Below w.heap.size w w') : Env F w' := by
  constructor
  · exact h.tab.below hb h.pos
  · have hp := h.pow
    unfold Lib.TabIs World.var? at hp ⊢
    cases hg : Tryf.prog.globalNamed "internal/strconv.uint64pow10" with
    | none => rw [hg] at hp; cases hp
    | some g =>
      rw [hg] at hp
      simp only [Option.bind_some] at hp ⊢
      have hlt : g < w.heap.size := by
        rcases Nat.lt_or_ge g w.heap.size with h | h
        · exact h
        · rw [Array.getElem?_eq_none h] at hp; cases hp
      rw [hb.block g hlt]
      exact hp
  · obtain ⟨b, o, c, h1, h2, h3⟩ := h.days
    refine ⟨b, o, c, ?_, h2, fun j hj => ?_⟩
    · rw [hb.cell (p := ⟨1, 0, none⟩) (World.block_lt_of_cell? w ⟨1, 0, none⟩ h1)]
      exact h1
    · have := h3 j hj
      rw [hb.cell (p := ⟨b, o + j, none⟩) (World.block_lt_of_cell? w ⟨b, o + j, none⟩ this)]
      exact this
  · rw [hb.tape]; exact h.ans
/-- an int's text -/
def nmI (n : Int) : ByteArray := ⟨(Lib.itoa n).toArray⟩
theorem itoa_small : ∀ n : Nat, n < 129 → (Lib.itoa ((n : Int) - 64)).length ≤ 100 := by decide +kernel
theorem nmI_size (n : Int) (h0 : -64 ≤ n) (h1 : n ≤ 64) : (nmI n).size ≤ 1000 := by
  have h := itoa_small (n + 64).toNat (by omega)
  rw [show (((n + 64).toNat : Nat) : Int) - 64 = n by omega] at h
  show (Lib.itoa n).toArray.size ≤ 1000
  simp
  omega
theorem name25 {F : Interp} (m : Int) (W : World) (h : -64 ≤ m ∧ m ≤ 64) (hE : Env F W) : Calls Tryf.prog 25 #[.int .i64 m] W fun e W' => e = .returned (.string (nmI m)) ∧ Below W.heap.size W W' := by
  refine (Tryf.strconv_Itoa m (by omega) (by omega) W hE.pow).mono ?_
  rintro e w' ⟨rfl, k, os, rfl⟩
  exact ⟨rfl, Lib.below_grow _ _ (Nat.le_refl _) _ _⟩
theorem name28 {F : Interp} (m : Int) (W : World) (h : -64 ≤ m ∧ m ≤ 64) (hE : Env F W) : Calls Tryf.prog 28 #[.int .i64 m] W fun e W' => e = .returned (.string (wkN m)) ∧ Below W.heap.size W W' :=
  weekdayName_any m h.1 h.2 W hE.days
theorem wf_year (y : Int) (h : 0 ≤ y ∧ y ≤ 65535) : (Lit.int .i64 y).wf = true := by
  simp [Lit.wf, IntKind.min, IntKind.max, IntKind.signed, IntKind.bits]
  omega
theorem name27 {F : Interp} (y : Int) (W : World) (h : 0 ≤ y ∧ y ≤ 65535) (hE : Env F W) : Calls Tryf.prog 27 #[.int .i64 y] W fun e W' => e = .returned (.string (yN y)) ∧ Below W.heap.size W W' :=
  yearText_any F y (wf_year y h) W hE.ans
theorem txt_size (nm : Int → ByteArray) (p : Int × Int) (h1 : (nm p.1).size ≤ 1000) (h2 : (nm p.2).size ≤ 1000) : (txt nm p).size ≤ 3000 := by
  unfold txt
  split
  · rw [ByteArray.size_append, ByteArray.size_append]; show _ + (1 + _) ≤ _; omega
  · omega
theorem jn_len (xs : List ByteArray) (K : Nat) (h : ∀ x ∈ xs, x.size ≤ K) : (jn xs).length ≤ xs.length * (K + 2) := by
  unfold jn
  cases xs with
  | nil => simp [Lib.join_nil]
  | cons x r =>
    rw [List.map_cons, Lib.join_cons, List.length_append]
    have hx : x.data.toList.length ≤ K := h x (by simp)
    have hr : ∀ r : List ByteArray, (∀ y ∈ r, y.size ≤ K) → (Lib.joinTail [44, 32] (r.map (·.data.toList))).length ≤ r.length * (K + 2) := by
      intro r
      induction r with
      | nil => intro _; simp [Lib.joinTail]
      | cons y r ih =>
        intro hy
        have h1 : y.data.toList.length ≤ K := hy y (by simp)
        have h2 := ih (fun z hz => hy z (by simp [hz]))
        simp only [Lib.joinTail, List.map_cons, List.flatten_cons, List.length_append] at h2 ⊢
        simp only [List.length_cons, List.length_nil]
        rw [Nat.add_mul]
        omega
    have := hr r (fun y hy => h y (by simp [hy]))
    simp only [List.length_cons]
    rw [Nat.add_mul]
    omega
theorem isBuilder_below {B b : Nat} {bs : List Value} {w w' : World} (h : Lib.IsBuilder 58 5 B b bs w) (hb : Below w.heap.size w w') : Lib.IsBuilder 58 5 B b bs w' := by
  have g : ∀ p, Lib.BuilderAt 58 5 B b p bs w → Lib.BuilderAt 58 5 B b p bs w' := fun p ⟨hB, u, hu, hown, hnb⟩ => by
    refine ⟨hB, u, (hb.block b (Array.getElem?_eq_some_iff.1 hu).1).trans hu, own_below hown hb (Nat.le_refl _), hnb⟩
  exact h.imp (g _) (g _)
/-- the three element lists out of the sets -/
theorem texts_int {F : Interp} (x : Nat) (hx : x < 2 ^ 64) (w : World) (hE : Env F w) :
    Calls Tryf.prog 23 #[.func (.func 24) #[.int .u64 (x : Int)] #[], .func (.func 25) #[] #[]] w fun e w' => ∃ v, e = .returned v ∧ w'.ownsRow w.heap.size 9 1 v (runsOf x).length (((runsOf x).map (txt nmI)).map Value.string) ∧ Below w.heap.size w w' :=
  runTexts_25_24 _ (runsOf x) (fun m => -64 ≤ m ∧ m ≤ 64) nmI w
    (fun W hb => runs_seq 3 (by omega) w.heap.size hE.pos x hx W (hE.below hb).tab (hE.below hb).pos) (runsF_mem 64 x hx) (Nat.le_trans (runsF_len 64 x) (by omega)) (fun m h => nmI_size m h.1 h.2) (fun m W h hb => name25 m W h (hE.below hb))
theorem texts_day {F : Interp} (x : Nat) (hx : x < 2 ^ 64) (w : World) (hE : Env F w) :
    Calls Tryf.prog 23 #[.func (.func 24) #[.int .u64 (x : Int)] #[], .func (.func 28) #[] #[]] w fun e w' => ∃ v, e = .returned v ∧ w'.ownsRow w.heap.size 9 1 v (runsOf x).length (((runsOf x).map (txt wkN)).map Value.string) ∧ Below w.heap.size w w' :=
  runTexts_28_24 _ (runsOf x) (fun m => -64 ≤ m ∧ m ≤ 64) wkN w
    (fun W hb => runs_seq 3 (by omega) w.heap.size hE.pos x hx W (hE.below hb).tab (hE.below hb).pos) (runsF_mem 64 x hx) (Nat.le_trans (runsF_len 64 x) (by omega)) (fun m _ => Nat.le_trans (wkN_size m) (by omega)) (fun m W h hb => name28 m W h (hE.below hb))
theorem texts_year {F : Interp} (s : ByteArray) (hs : s.size ≤ 1000000) (w : World) (hE : Env F w) :
    Calls Tryf.prog 23 #[.func (.func 26) #[.agg #[.string s]] #[], .func (.func 27) #[] #[]] w fun e w' => ∃ v, e = .returned v ∧ w'.ownsRow w.heap.size 9 1 v (yruns s).length (((yruns s).map (txt yN)).map Value.string) ∧ Below w.heap.size w w' :=
  runTexts_27_26 _ (yruns s) (fun m => 0 ≤ m ∧ m ≤ 65535) yN w
    (fun W _ => yruns_seq 3 (by omega) w.heap.size s hs W) (by
      intro p hp
      unfold yruns at hp
      obtain ⟨i, _, rfl⟩ := List.mem_map.1 hp
      exact yrun_bounds s i) (by unfold yruns; simp; omega) (fun m h => yN_size m (wf_year m h)) (fun m W h hb => name27 m W h (hE.below hb))
end Go.Proofs.Qxb6615962aFmt
