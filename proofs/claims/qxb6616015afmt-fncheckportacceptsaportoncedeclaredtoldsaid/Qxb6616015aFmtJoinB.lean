import Derived.Test.Qxb6616015aFmtJoinA
import Derived.Deep.QuietTactic
import Derived.BigQuiet
namespace Go.Proofs.Qxb6616015aFmt
open Go.RowKit Go.Extern.Stop Go.Stop Go.Extern

theorem fnd_append (p : Nat → Bool) (m' : Nat) : ∀ (m i : Nat), fnd p (m + m') i = match fnd p m i with | some k => some k | none => fnd p m' (i + m)
  | 0, i => by simp [fnd]
  | m + 1, i => by
    rw [show m + 1 + m' = (m + m') + 1 by omega]
    simp only [fnd]
    split
    · rfl
    · rw [fnd_append p m' m (i + 1), show i + 1 + m = i + (m + 1) by omega]
theorem fnd_congr {p q : Nat → Bool} : ∀ (m i : Nat), (∀ j, i ≤ j → j < i + m → p j = q j) → fnd p m i = fnd q m i
  | 0, _, _ => rfl
  | m + 1, i, h => by
    simp only [fnd]
    rw [h i (by omega) (by omega), fnd_congr m (i + 1) (fun j h1 h2 => h j (by omega) (by omega))]
theorem fnd_shift (p : Nat → Bool) (n : Nat) : ∀ (m i : Nat), fnd p m (n + i) = (fnd (fun j => p (n + j)) m i).map (n + ·)
  | 0, _ => rfl
  | m + 1, i => by
    simp only [fnd]
    split
    · rfl
    · exact fnd_shift p n m (i + 1)
theorem same_of {ns nm : ByteArray} {s t : Svc} (hs : isSv ns nm s = true) (ht : isSv ns nm t = true) : sameSv s t = true := by
  simp only [isSv, Bool.and_eq_true, beq_iff_eq] at hs ht
  simp only [sameSv, isSv, Bool.and_eq_true, beq_iff_eq]
  exact ⟨hs.1.trans ht.1.symm, hs.2.trans ht.2.symm⟩
theorem decl_join {sv sv' : Nat → Svc} {n n' : Nat} {ns nm : ByteArray} {port : Int} (hu : ∀ i j, i < j → j < n + n' → sameSv (joinSv sv sv' n i) (joinSv sv sv' n j) = false) :
    decl (joinSv sv sv' n) (n + n') ns nm port = (decl sv n ns nm port || decl sv' n' ns nm port) := by
  have e1 : fnd (fun i => isSv ns nm (joinSv sv sv' n i)) n 0 = fnd (fun i => isSv ns nm (sv i)) n 0 := fnd_congr n 0 (fun j _ hj => by rw [joinSv_lt (by omega)])
  have e2 : fnd (fun i => isSv ns nm (joinSv sv sv' n i)) n' (0 + n) = (fnd (fun i => isSv ns nm (sv' i)) n' 0).map (n + ·) := by
    rw [show 0 + n = n + 0 by omega, fnd_shift]
    congr 1
    exact fnd_congr n' 0 (fun j _ _ => by rw [joinSv_ge])
  unfold decl
  rw [fnd_append, e1, e2]
  cases h1 : fnd (fun i => isSv ns nm (sv i)) n 0 with
  | none =>
    cases h2 : fnd (fun i => isSv ns nm (sv' i)) n' 0 with
    | none => rfl
    | some j => simp only [Option.map_some, joinSv_ge, Bool.false_or]
  | some k =>
    obtain ⟨_, hk2, hk3⟩ := fnd_lt n 0 k h1
    cases h2 : fnd (fun i => isSv ns nm (sv' i)) n' 0 with
    | none => simp only [joinSv_lt (show k < n by omega), Bool.or_false]
    | some j =>
      obtain ⟨_, hj2, hj3⟩ := fnd_lt n' 0 j h2
      have := hu k (n + j) (by omega) (by omega)
      rw [joinSv_lt (by omega), joinSv_ge, same_of hk3 hj3] at this
      cases this
theorem uni_left {sv sv' : Nat → Svc} {n n' : Nat} (hu : ∀ i j, i < j → j < n + n' → sameSv (joinSv sv sv' n i) (joinSv sv sv' n j) = false) : ∀ i j, i < j → j < n → sameSv (sv i) (sv j) = false := by
  intro i j h1 h2
  have := hu i j h1 (by omega)
  rwa [joinSv_lt (by omega), joinSv_lt h2] at this
theorem uni_right {sv sv' : Nat → Svc} {n n' : Nat} (hu : ∀ i j, i < j → j < n + n' → sameSv (joinSv sv sv' n i) (joinSv sv sv' n j) = false) : ∀ i j, i < j → j < n' → sameSv (sv' i) (sv' j) = false := by
  intro i j h1 h2
  have := hu (n + i) (n + j) (by omega) (by omega)
  rwa [joinSv_ge, joinSv_ge] at this

theorem app22 (w : World) {ops : Array Oper} {rest : List Oper} {o : Oper} {a : Act} {Q : Exit → Act → World → Prop}
    (hg : o.guard = none) (s x : Operand) (hop : o.op = Op.call { callee := Callee.builtin Builtin.append, args := #[s, x], argTypes := #[22, 22] })
    (base g k cap : Nat) (xs : List Value) (hs : a.eval s = .slice (some ⟨g, 0, none⟩) k cap) (hown : w.ownsRow base 29 3 (.slice (some ⟨g, 0, none⟩) k cap) k xs) (ao : Option Addr) (m c : Nat) (news : List Value) (hx : a.eval x = .slice ao m c) (hn : news.length = m * 3)
    (hnone : ao = none → m = 0 ∧ c = 0) (hc : ∀ ad, ao = some ad → ∀ j u, news[j]? = some u → w.cell? (ad.add j) = some u) (h1c : ∀ u ∈ news, u.oneCell' = true) (b1 : k + m ≤ cap)
    (hK : ∀ w', w'.ownsRow base 29 3 (.slice (some ⟨g, 0, none⟩) (k + m) cap) (k + m) (xs ++ news) → w.grownBy w' (some g) → wpList Tryf.prog ops Q rest (a.put o.dst (.slice (some ⟨g, 0, none⟩) (k + m) cap)) w') :
    wpList Tryf.prog ops Q (o :: rest) a w := by
  obtain ⟨i3, hi3, _, hs3, _⟩ := info_parts Tryf.info29
  exact wpList_append_fits_any w hg s x 22 hop base 29 i3 3 Tryf.underlying22 hi3 hs3 g k cap xs hs hown ao m c news hx hn hnone hc h1c b1 hK

/-- an error value: nil just where ok -/
def EV (ok : Bool) (v : Value) : Prop := (ok = true ∧ v = .nilIface) ∨ (ok = false ∧ ∃ t x, v = .iface t x)
theorem CP.ev {ok : Bool} {e : Ending} (h : CP ok e) : ∃ v, e = .returned v ∧ Hid (EV ok v) := by
  rcases h with ⟨h, rfl⟩ | ⟨h, t, x, rfl⟩
  · exact ⟨_, rfl, .inl ⟨h, rfl⟩⟩
  · exact ⟨_, rfl, .inr ⟨h, t, x, rfl⟩⟩

/-- what the law is told of the arguments -/
structure Arg (w : World) (a : Option Addr) (n cap : Nat) (sv : Nat → Svc) : Prop where
  svcs : Svcs w a n sv
  nil : a = none → n = 0 ∧ cap = 0
  len : n ≤ maxLen

set_option maxHeartbeats 2000000 in
theorem law4 (F : Interp) (port : Int) (ns nm : ByteArray) (a : Option Addr) (n cap : Nat) (a' : Option Addr) (n' cap' : Nat) (sv sv' : Nat → Svc) (w : World) (hF : F.answers w.tape) (hA : Arg w a n cap sv) (hB : Arg w a' n' cap' sv') :
    Calls Tryf.prog 4 #[.int .i64 port, .string ns, .string nm, .slice a n cap, .slice a' n' cap'] w fun e w' => e = .returned (.bool true) ∧ Below w.heap.size w w' := by
  obtain ⟨hs, hnil, hlen⟩ := hA
  obtain ⟨hs', hnil', hlen'⟩ := hB
  have HN : Hid (a = none → n = 0 ∧ cap = 0) := hnil
  have HN' : Hid (a' = none → n' = 0 ∧ cap' = 0) := hnil'
  clear hnil hnil'
  go_enter Tryf.func4, Tryf.ntmps4
  go_wp2_with fail
  refine (zz4_any port ns nm a n cap a' n' cap' sv sv' w hs hs').mono ?_
  rintro e w' ⟨⟨r, rfl, hr⟩, hw⟩
  subst w'
  cases r
  · go_wp2
    go_ret
    exact ⟨rfl, Below.refl _ _⟩
  obtain ⟨m0, m1, m2, m3, m4, m5⟩ := hr rfl
  have HP : Hid (∀ i, i < n → (sv i).pl ≤ 1048576) := fun i hi => (m4 i hi).2.2.1
  have HP' : Hid (∀ i, i < n' → (sv' i).pl ≤ 1048576) := fun i hi => (m5 i hi).2.2.1
  clear hr
  go_wp2_with fail
  refine (sbytes_any _ a n cap sv w (by omega) (by omega) m2 m4 hs).mono ?_
  rintro e w1 ⟨r1, rfl, h10, h11, hb1⟩
  by_cases hr1 : r1 ≤ 1048576
  rotate_left
  · go_wp2
    go_ret
    exact ⟨rfl, hb1⟩
  have hs1' := hs'.below hb1
  go_wp2_with fail
  refine (sbytes_any _ a' n' cap' sv' w1 (by omega) (by omega) m3 m5 hs1').mono ?_
  rintro e w2 ⟨r2, rfl, h20, h21, hb2⟩
  have hb02 : Below w.heap.size w w2 := hb1.trans (hb2.mono hb1.size)
  clear hs1'
  by_cases hr2 : 1048576 < r2
  · go_wp2
    go_ret
    exact ⟨rfl, hb02⟩
  by_cases hn4 : 4096 < n
  · go_wp2
    go_ret
    exact ⟨rfl, hb02⟩
  by_cases hn4' : (4096 : Int) - n < n'
  · go_wp2
    go_ret
    exact ⟨rfl, hb02⟩
  have hmk := make22 (n + n') (by omega)
  rw [Int.natCast_add] at hmk
  have hown0 : (w2.alloc (.cells (madeCells Z3 ((n + n') * 3)) 29)).ownsRow w2.heap.size 29 3 (.slice (some ⟨w2.heap.size, 0, none⟩) 0 (n + n')) 0 [] :=
    World.ownsRow_made w2 _ (n + n') (Nat.le_refl _) (by unfold maxLen; omega) (size_madeCells _ _)
  have hb03 : Below w.heap.size w (w2.alloc (.cells (madeCells Z3 ((n + n') * 3)) 29)) := hb02.alloc hb02.size _
  have hs3 := hs.below hb03
  have HSRC : Hid (∀ ad, a = some ad → ∀ j u, (cellsL sv n)[j]? = some u → (w2.alloc (.cells (madeCells Z3 ((n + n') * 3)) 29)).cell? (ad.add j) = some u) := hs3.src
  clear hs3
  go_wp2_with (at_builtin; refine app22 _ rfl _ _ rfl w2.heap.size w2.heap.size 0 (n + n') [] rfl hown0 a n cap (cellsL sv n) rfl (cellsL_length sv n) HN.out HSRC.out (cellsL_one sv n) (by omega) ?_)
  intro w4 hown1 hg1
  have hb04 : Below w.heap.size w w4 := hb03.grown hg1 (by simp; have := hb02.size; omega) (fun k hk => by cases hk; exact hb02.size)
  have hs4 := hs'.below hb04
  have HSRC' : Hid (∀ ad, a' = some ad → ∀ j u, (cellsL sv' n')[j]? = some u → w4.cell? (ad.add j) = some u) := hs4.src
  clear hs4 HSRC hown0 hmk
  go_wp2_with (at_builtin; refine app22 _ rfl _ _ rfl w2.heap.size w2.heap.size n (n + n') (cellsL sv n) rfl hown1 a' n' cap' (cellsL sv' n') rfl (cellsL_length sv' n') HN'.out HSRC'.out (cellsL_one sv' n') (by omega) ?_)
  intro w5 hown2 hg2
  have hb05 : Below w.heap.size w w5 := hb04.grown hg2 hb04.size (fun k hk => by cases hk; exact hb02.size)
  have hsab : Svcs w5 (some ⟨w2.heap.size, 0, none⟩) (n + n') (joinSv sv sv' n) := joined_svcs hown2 (hs.below hb05).prts (hs'.below hb05).prts
  clear hown1 hown2 HSRC' hg1 hg2 hb03
  go_wp2_with fail
  refine (unique_any _ _ _ (joinSv sv sv' n) w5 (by omega) hsab).mono ?_
  rintro e w6 ⟨r, rfl, hu, hb6⟩
  have hb06 : Below w.heap.size w w6 := hb05.trans (hb6.mono hb05.size)
  cases r
  · go_wp2
    go_ret
    exact ⟨rfl, hb06⟩
  have HU : Hid (∀ i j, i < j → j < n + n' → sameSv (joinSv sv sv' n i) (joinSv sv sv' n j) = false) := hu rfl
  clear hu
  have hsab6 := hsab.below hb6
  have HPJ : Hid (∀ i, i < n + n' → (joinSv sv sv' n i).pl ≤ 1048576) := fun i hi => by
    by_cases h : i < n
    · rw [joinSv_lt h]; exact HP.out i h
    · obtain ⟨k, rfl⟩ : ∃ k, i = n + k := ⟨i - n, by omega⟩
      rw [joinSv_ge]; exact HP'.out k (by omega)
  clear hsab hb6
  go_wp2_with fail
  refine (toDoc_any a n cap sv w6 (by omega) (fun h => (HN.out h).1) (hs.below hb06) HP.out).mono ?_
  rintro e wA1 ⟨⟨q, c, D, rfl, hq, hd⟩, hbx⟩
  have hbA1 : Below w.heap.size w wA1 := hb06.trans (hbx.mono hb06.size)
  have hsA1 := hsab6.below hbx
  clear hsab6
  clear hbx
  go_wp2_with fail
  refine (newRes_any q n c D sv wA1 (by omega) hq hd (uni_left HU.out)).mono ?_
  rintro e wA2 ⟨⟨R, rfl, hR⟩, hbx⟩
  have hbA2 : Below w.heap.size w wA2 := hbA1.trans (hbx.mono hbA1.size)
  have hsA2 := hsA1.below hbx
  clear hsA1
  clear hbx hq hd hbA1
  go_wp2_with fail
  refine (zzCheck_any F R n sv ns nm port wA2 (by rw [hbA2.tape]; exact hF) HP.out hR).mono ?_
  rintro e wA3 ⟨hcp, hbx⟩
  have hbA3 : Below w.heap.size w wA3 := hbA2.trans (hbx.mono hbA2.size)
  have hsA3 := hsA2.below hbx
  clear hsA2
  obtain ⟨vA, rfl, EA⟩ := hcp.ev
  clear hbx hR hcp hbA2
  go_wp2_with fail
  refine (toDoc_any a' n' cap' sv' wA3 (by omega) (fun h => (HN'.out h).1) (hs'.below hbA3) HP'.out).mono ?_
  rintro e wB1 ⟨⟨q, c, D, rfl, hq, hd⟩, hbx⟩
  have hbB1 : Below w.heap.size w wB1 := hbA3.trans (hbx.mono hbA3.size)
  have hsB1 := hsA3.below hbx
  clear hsA3
  clear hbx
  go_wp2_with fail
  refine (newRes_any q n' c D sv' wB1 (by omega) hq hd (uni_right HU.out)).mono ?_
  rintro e wB2 ⟨⟨R, rfl, hR⟩, hbx⟩
  have hbB2 : Below w.heap.size w wB2 := hbB1.trans (hbx.mono hbB1.size)
  have hsB2 := hsB1.below hbx
  clear hsB1
  clear hbx hq hd hbB1
  go_wp2_with fail
  refine (zzCheck_any F R n' sv' ns nm port wB2 (by rw [hbB2.tape]; exact hF) HP'.out hR).mono ?_
  rintro e wB3 ⟨hcp, hbx⟩
  have hbB3 : Below w.heap.size w wB3 := hbB2.trans (hbx.mono hbB2.size)
  have hsB3 := hsB2.below hbx
  clear hsB2
  obtain ⟨vB, rfl, EB⟩ := hcp.ev
  clear hbx hR hcp hbB2
  go_wp2_with fail
  refine (toDoc_any (some ⟨w2.heap.size, 0, none⟩) (n + n') (n + n') (joinSv sv sv' n) wB3 (by omega) (fun h => by cases h) hsB3 HPJ.out).mono ?_
  rintro e wC1 ⟨⟨q, c, D, rfl, hq, hd⟩, hbx⟩
  have hbC1 : Below w.heap.size w wC1 := hbB3.trans (hbx.mono hbB3.size)
  clear hbx
  go_wp2_with fail
  refine (newRes_any q (n + n') c D (joinSv sv sv' n) wC1 (by omega) hq hd HU.out).mono ?_
  rintro e wC2 ⟨⟨R, rfl, hR⟩, hbx⟩
  have hbC2 : Below w.heap.size w wC2 := hbC1.trans (hbx.mono hbC1.size)
  clear hbx hq hd hbC1
  go_wp2_with fail
  refine (zzCheck_any F R (n + n') (joinSv sv sv' n) ns nm port wC2 (by rw [hbC2.tape]; exact hF) HPJ.out hR).mono ?_
  rintro e wC3 ⟨hcp, hbx⟩
  have hbC3 : Below w.heap.size w wC3 := hbC2.trans (hbx.mono hbC2.size)
  obtain ⟨vC, rfl, EC⟩ := hcp.ev
  clear hbx hR hcp hbC2
  have hsF := hs.below hbC3
  have hsF' := hs'.below hbC3
  have hdj := decl_join (ns := ns) (nm := nm) (port := port) HU.out
  rw [hdj] at EC
  have cA : ∀ W, Below wC3.heap.size wC3 W → Calls Tryf.prog 13 #[.slice a n cap, .string ns, .string nm, .int .i64 port] W fun e w' => e = .returned (.bool (decl sv n ns nm port)) ∧ w' = W := fun W h => declares_any a n cap sv ns nm port W m2 HP.out (hsF.below h)
  have cB : ∀ W, Below wC3.heap.size wC3 W → Calls Tryf.prog 13 #[.slice a' n' cap', .string ns, .string nm, .int .i64 port] W fun e w' => e = .returned (.bool (decl sv' n' ns nm port)) ∧ w' = W := fun W h => declares_any a' n' cap' sv' ns nm port W m3 HP'.out (hsF'.below h)
  have cR : ∀ W, Calls Tryf.prog 12 #[.int .i64 port] W fun e w' => e = .returned (.bool (inR port)) ∧ w' = W := fun W => inRange_any port W
  clear hsF hsF' hdj HU HPJ HP HP' hsB3 HN HN' hs hs' m4 m5 hF
  generalize decl sv n ns nm port = dA at *
  generalize decl sv' n' ns nm port = dB at *
  generalize inR port = iR at *
  clear hb02 hb04 hb05 hb06 hb1 hb2 hbA3 hbB3
  cases iR
  · rcases EA.out with ⟨h, _⟩ | ⟨_, tA, xA, rfl⟩
    · cases h
    rcases EB.out with ⟨h, _⟩ | ⟨_, tB, xB, rfl⟩
    · cases h
    rcases EC.out with ⟨h, _⟩ | ⟨_, tC, xC, rfl⟩
    · cases h
    go_wp2_with fail
    go_quiet (first | (go_at_call 12; exact Calls.quiet_of_same (cR _)) | (go_at_call_of 13 a; exact Calls.quiet_of_same (cA _ (below_drewN (Below.refl _ _) _))) | (go_at_call_of 13 a'; exact Calls.quiet_of_same (cB _ (below_drewN (Below.refl _ _) _))))
    obtain ⟨wD, hD⟩ : ∃ W : World, W = wC3.drewN nq := ⟨_, rfl⟩
    rw [← hD]
    have hbwD : Below wC3.heap.size wC3 wD := by rw [hD]; exact below_drewN (Below.refl _ _) _
    clear hD
    go_wp2_with fail
    go_quiet (first | (go_at_call 12; exact Calls.quiet_of_same (cR _)) | (go_at_call_of 13 a; exact Calls.quiet_of_same (cA _ (below_drewN (hbwD) _))) | (go_at_call_of 13 a'; exact Calls.quiet_of_same (cB _ (below_drewN (hbwD) _))))
    obtain ⟨wE, hD⟩ : ∃ W : World, W = wD.drewN nq := ⟨_, rfl⟩
    rw [← hD]
    have hbwE : Below wC3.heap.size wC3 wE := by rw [hD]; exact below_drewN hbwD _
    clear hD
    go_wp2_with fail
    go_quiet (first | (go_at_call 12; exact Calls.quiet_of_same (cR _)) | (go_at_call_of 13 a; exact Calls.quiet_of_same (cA _ (below_drewN (hbwE) _))) | (go_at_call_of 13 a'; exact Calls.quiet_of_same (cB _ (below_drewN (hbwE) _))))
    go_wp2
    go_ret
    exact ⟨rfl, hbC3.trans ((below_drewN hbwE _).mono hbC3.size)⟩
  · cases dA <;> cases dB
    · rcases EA.out with ⟨h, _⟩ | ⟨_, tA, xA, rfl⟩
      · cases h
      rcases EB.out with ⟨h, _⟩ | ⟨_, tB, xB, rfl⟩
      · cases h
      rcases EC.out with ⟨h, _⟩ | ⟨_, tC, xC, rfl⟩
      · cases h
      go_wp2_with fail
      go_quiet (first | (go_at_call 12; exact Calls.quiet_of_same (cR _)) | (go_at_call_of 13 a; exact Calls.quiet_of_same (cA _ (below_drewN (Below.refl _ _) _))) | (go_at_call_of 13 a'; exact Calls.quiet_of_same (cB _ (below_drewN (Below.refl _ _) _))))
      obtain ⟨wD, hD⟩ : ∃ W : World, W = wC3.drewN nq := ⟨_, rfl⟩
      rw [← hD]
      have hbwD : Below wC3.heap.size wC3 wD := by rw [hD]; exact below_drewN (Below.refl _ _) _
      clear hD
      go_wp2_with fail
      go_quiet (first | (go_at_call 12; exact Calls.quiet_of_same (cR _)) | (go_at_call_of 13 a; exact Calls.quiet_of_same (cA _ (below_drewN (hbwD) _))) | (go_at_call_of 13 a'; exact Calls.quiet_of_same (cB _ (below_drewN (hbwD) _))))
      obtain ⟨wE, hD⟩ : ∃ W : World, W = wD.drewN nq := ⟨_, rfl⟩
      rw [← hD]
      have hbwE : Below wC3.heap.size wC3 wE := by rw [hD]; exact below_drewN hbwD _
      clear hD
      go_wp2_with fail
      go_quiet (first | (go_at_call 12; exact Calls.quiet_of_same (cR _)) | (go_at_call_of 13 a; exact Calls.quiet_of_same (cA _ (below_drewN (hbwE) _))) | (go_at_call_of 13 a'; exact Calls.quiet_of_same (cB _ (below_drewN (hbwE) _))))
      go_wp2
      go_ret
      exact ⟨rfl, hbC3.trans ((below_drewN hbwE _).mono hbC3.size)⟩
    · rcases EA.out with ⟨h, _⟩ | ⟨_, tA, xA, rfl⟩
      · cases h
      rcases EB.out with ⟨_, rfl⟩ | ⟨h, _⟩
      rotate_left
      · cases h
      rcases EC.out with ⟨_, rfl⟩ | ⟨h, _⟩
      rotate_left
      · cases h
      go_wp2_with fail
      go_quiet (first | (go_at_call 12; exact Calls.quiet_of_same (cR _)) | (go_at_call_of 13 a; exact Calls.quiet_of_same (cA _ (below_drewN (Below.refl _ _) _))) | (go_at_call_of 13 a'; exact Calls.quiet_of_same (cB _ (below_drewN (Below.refl _ _) _))))
      obtain ⟨wD, hD⟩ : ∃ W : World, W = wC3.drewN nq := ⟨_, rfl⟩
      rw [← hD]
      have hbwD : Below wC3.heap.size wC3 wD := by rw [hD]; exact below_drewN (Below.refl _ _) _
      clear hD
      go_wp2_with fail
      go_quiet (first | (go_at_call 12; exact Calls.quiet_of_same (cR _)) | (go_at_call_of 13 a; exact Calls.quiet_of_same (cA _ (below_drewN (hbwD) _))) | (go_at_call_of 13 a'; exact Calls.quiet_of_same (cB _ (below_drewN (hbwD) _))))
      obtain ⟨wE, hD⟩ : ∃ W : World, W = wD.drewN nq := ⟨_, rfl⟩
      rw [← hD]
      have hbwE : Below wC3.heap.size wC3 wE := by rw [hD]; exact below_drewN hbwD _
      clear hD
      go_wp2_with fail
      go_quiet (first | (go_at_call 12; exact Calls.quiet_of_same (cR _)) | (go_at_call_of 13 a; exact Calls.quiet_of_same (cA _ (below_drewN (hbwE) _))) | (go_at_call_of 13 a'; exact Calls.quiet_of_same (cB _ (below_drewN (hbwE) _))))
      go_wp2
      go_ret
      exact ⟨rfl, hbC3.trans ((below_drewN hbwE _).mono hbC3.size)⟩
    · rcases EA.out with ⟨_, rfl⟩ | ⟨h, _⟩
      rotate_left
      · cases h
      rcases EB.out with ⟨h, _⟩ | ⟨_, tB, xB, rfl⟩
      · cases h
      rcases EC.out with ⟨_, rfl⟩ | ⟨h, _⟩
      rotate_left
      · cases h
      go_wp2_with fail
      go_quiet (first | (go_at_call 12; exact Calls.quiet_of_same (cR _)) | (go_at_call_of 13 a; exact Calls.quiet_of_same (cA _ (below_drewN (Below.refl _ _) _))) | (go_at_call_of 13 a'; exact Calls.quiet_of_same (cB _ (below_drewN (Below.refl _ _) _))))
      obtain ⟨wD, hD⟩ : ∃ W : World, W = wC3.drewN nq := ⟨_, rfl⟩
      rw [← hD]
      have hbwD : Below wC3.heap.size wC3 wD := by rw [hD]; exact below_drewN (Below.refl _ _) _
      clear hD
      go_wp2_with fail
      go_quiet (first | (go_at_call 12; exact Calls.quiet_of_same (cR _)) | (go_at_call_of 13 a; exact Calls.quiet_of_same (cA _ (below_drewN (hbwD) _))) | (go_at_call_of 13 a'; exact Calls.quiet_of_same (cB _ (below_drewN (hbwD) _))))
      obtain ⟨wE, hD⟩ : ∃ W : World, W = wD.drewN nq := ⟨_, rfl⟩
      rw [← hD]
      have hbwE : Below wC3.heap.size wC3 wE := by rw [hD]; exact below_drewN hbwD _
      clear hD
      go_wp2_with fail
      go_quiet (first | (go_at_call 12; exact Calls.quiet_of_same (cR _)) | (go_at_call_of 13 a; exact Calls.quiet_of_same (cA _ (below_drewN (hbwE) _))) | (go_at_call_of 13 a'; exact Calls.quiet_of_same (cB _ (below_drewN (hbwE) _))))
      go_wp2
      go_ret
      exact ⟨rfl, hbC3.trans ((below_drewN hbwE _).mono hbC3.size)⟩
    · rcases EA.out with ⟨_, rfl⟩ | ⟨h, _⟩
      rotate_left
      · cases h
      rcases EB.out with ⟨_, rfl⟩ | ⟨h, _⟩
      rotate_left
      · cases h
      rcases EC.out with ⟨_, rfl⟩ | ⟨h, _⟩
      rotate_left
      · cases h
      go_wp2_with fail
      go_quiet (first | (go_at_call 12; exact Calls.quiet_of_same (cR _)) | (go_at_call_of 13 a; exact Calls.quiet_of_same (cA _ (below_drewN (Below.refl _ _) _))) | (go_at_call_of 13 a'; exact Calls.quiet_of_same (cB _ (below_drewN (Below.refl _ _) _))))
      obtain ⟨wD, hD⟩ : ∃ W : World, W = wC3.drewN nq := ⟨_, rfl⟩
      rw [← hD]
      have hbwD : Below wC3.heap.size wC3 wD := by rw [hD]; exact below_drewN (Below.refl _ _) _
      clear hD
      go_wp2_with fail
      go_quiet (first | (go_at_call 12; exact Calls.quiet_of_same (cR _)) | (go_at_call_of 13 a; exact Calls.quiet_of_same (cA _ (below_drewN (hbwD) _))) | (go_at_call_of 13 a'; exact Calls.quiet_of_same (cB _ (below_drewN (hbwD) _))))
      obtain ⟨wE, hD⟩ : ∃ W : World, W = wD.drewN nq := ⟨_, rfl⟩
      rw [← hD]
      have hbwE : Below wC3.heap.size wC3 wE := by rw [hD]; exact below_drewN hbwD _
      clear hD
      go_wp2_with fail
      go_quiet (first | (go_at_call 12; exact Calls.quiet_of_same (cR _)) | (go_at_call_of 13 a; exact Calls.quiet_of_same (cA _ (below_drewN (hbwE) _))) | (go_at_call_of 13 a'; exact Calls.quiet_of_same (cB _ (below_drewN (hbwE) _))))
      go_wp2
      go_ret
      exact ⟨rfl, hbC3.trans ((below_drewN hbwE _).mono hbC3.size)⟩
end Go.Proofs.Qxb6616015aFmt
