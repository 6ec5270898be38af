import Derived.Test.Qxb6616015aFmtWithB
import Derived.Test.Qxb6616015aFmtDataD
namespace Go.Proofs.Qxb6616015aFmt
open Go.RowKit Go.Extern.Stop Go.Stop Go.Extern

theorem fnd_some {p : Nat → Bool} : ∀ (n i j : Nat), i ≤ j → j < i + n → p j = true → (fnd p n i).isSome = true
  | 0, _, _, _, h2, _ => by omega
  | n + 1, i, j, h1, h2, h3 => by
    simp only [fnd]
    split
    · rfl
    · rename_i hp
      have hij : i ≠ j := fun e => hp (by rw [e]; exact h3)
      exact fnd_some n (i + 1) j (by omega) (by omega) h3
theorem fnd_first {p : Nat → Bool} {n j : Nat} (hj : j < n) (h1 : p j = true) (h0 : ∀ i, i < j → p i = false) : fnd p n 0 = some j := by
  cases h : fnd p n 0 with
  | none =>
    have := fnd_none n 0 h j (by omega) (by omega)
    rw [h1] at this; cases this
  | some i =>
    obtain ⟨_, h2, h3⟩ := fnd_lt n 0 i h
    by_cases hij : i < j
    · rw [h0 i hij] at h3; cases h3
    · by_cases hji : j < i
      · have e := fnd_append p (n - (j + 1)) (j + 1) 0
        rw [show j + 1 + (n - (j + 1)) = n by omega, h] at e
        have hs := fnd_some (p := p) (j + 1) 0 j (by omega) (by omega) h1
        cases hh : fnd p (j + 1) 0 with
        | none => rw [hh] at hs; cases hs
        | some q =>
          rw [hh] at e
          have := (fnd_lt (j + 1) 0 q hh).2.1
          simp at e
          omega
      · rw [show i = j by omega]
theorem isSv_self (ns nm : ByteArray) (s : Svc) (h1 : s.ns = ns) (h2 : s.nm = nm) : isSv ns nm s = true := by
  unfold isSv; rw [h1, h2]; simp
theorem decl_new {sv : Nat → Svc} {n p B : Nat} {ns nm pnm : ByteArray} {port : Int} (hp : p ≤ n) (hno : fnd (fun i => isSv ns nm (sv i)) n 0 = none) : decl (insS p (frs ns nm pnm port B) sv) (n + 1) ns nm port = true := by
  have e : fnd (fun i => isSv ns nm (insS p (frs ns nm pnm port B) sv i)) (n + 1) 0 = some p := by
    refine fnd_first (by omega) ?_ (fun i hi => ?_)
    · show isSv ns nm (insS p (frs ns nm pnm port B) sv p) = true
      rw [insS_at]; exact isSv_self _ _ _ rfl rfl
    · show isSv ns nm (insS p (frs ns nm pnm port B) sv i) = false
      rw [insS_lt hi]; exact fnd_none n 0 hno i (by omega) (by omega)
  unfold decl
  rw [e]
  show hasP (insS p (frs ns nm pnm port B) sv p) port = true
  rw [insS_at]
  simp [hasP, frs, fnd]
theorem beq_symm' (a b : ByteArray) : (a.toList == b.toList) = (b.toList == a.toList) := by
  rw [Bool.beq_comm]
theorem same_comm (s t : Svc) : sameSv s t = sameSv t s := by
  unfold sameSv isSv; rw [beq_symm' s.ns t.ns, beq_symm' s.nm t.nm]
theorem uni_new {sv : Nat → Svc} {n p B : Nat} {ns nm pnm : ByteArray} {port : Int} (hp : p ≤ n) (hno : fnd (fun i => isSv ns nm (sv i)) n 0 = none) (hu : ∀ i j, i < j → j < n → sameSv (sv i) (sv j) = false) :
    ∀ i j, i < j → j < n + 1 → sameSv (insS p (frs ns nm pnm port B) sv i) (insS p (frs ns nm pnm port B) sv j) = false := by
  have hf : ∀ i, i < n → isSv ns nm (sv i) = false := fun i hi => fnd_none n 0 hno i (by omega) (by omega)
  intro i j hij hj
  by_cases h1 : j < p
  · rw [insS_lt h1, insS_lt (by omega)]; exact hu i j hij (by omega)
  · by_cases h2 : j = p
    · subst h2
      rw [insS_at, insS_lt hij]
      exact hf i (by omega)
    · obtain ⟨j', rfl⟩ : ∃ j', j = j' + 1 := ⟨j - 1, by omega⟩
      rw [insS_succ (by omega)]
      by_cases h3 : i < p
      · rw [insS_lt h3]; exact hu i j' (by omega) (by omega)
      · by_cases h4 : i = p
        · subst h4
          rw [insS_at, same_comm]
          exact hf j' (by omega)
        · obtain ⟨i', rfl⟩ : ∃ i', i = i' + 1 := ⟨i - 1, by omega⟩
          rw [insS_succ (by omega)]
          exact hu i' j' (by omega) (by omega)
theorem isSv_upd {sv : Nat → Svc} {k : Nat} {s2 : Svc} {port : Int} (hg : GoodS (sv k) s2 port) (ns nm : ByteArray) (i : Nat) : isSv ns nm (updS k s2 sv i) = isSv ns nm (sv i) := by
  by_cases e : i = k
  · subst e; rw [updS_at]; unfold isSv; rw [hg.1, hg.2.1]
  · rw [updS_ne e]
theorem decl_old {sv : Nat → Svc} {n k : Nat} {s2 : Svc} {ns nm : ByteArray} {port : Int} (hg : GoodS (sv k) s2 port) (hf : fnd (fun i => isSv ns nm (sv i)) n 0 = some k) : decl (updS k s2 sv) n ns nm port = true := by
  have e : fnd (fun i => isSv ns nm (updS k s2 sv i)) n 0 = some k := by
    rw [← hf]; exact fnd_congr n 0 (fun j _ _ => isSv_upd hg ns nm j)
  unfold decl
  rw [e]
  show hasP (updS k s2 sv k) port = true
  rw [updS_at]
  obtain ⟨_, _, _, j, hj, hpj⟩ := hg
  exact fnd_some _ 0 j (by omega) (by omega) (by simp [hpj])
theorem same_upd {sv : Nat → Svc} {k : Nat} {s2 : Svc} {port : Int} (hg : GoodS (sv k) s2 port) (i j : Nat) : sameSv (updS k s2 sv i) (updS k s2 sv j) = sameSv (sv i) (sv j) := by
  unfold sameSv
  rw [isSv_upd hg]
  by_cases e : j = k
  · subst e; rw [updS_at, hg.1, hg.2.1]
  · rw [updS_ne e]


set_option maxHeartbeats 2000000 in
theorem law3_in (F : Interp) (port : Int) (ns nm pnm : ByteArray) (a : Option Addr) (n cap : Nat) (x : Int) (sv : Nat → Svc) (w : World) (hF : F.answers w.tape) (hA : Arg w a n cap sv) :
    Calls Tryf.prog 3 #[.int .i64 port, .string ns, .string nm, .slice a n cap, .int .i64 x, .string pnm] w fun e w' => e = .returned (.bool true) ∧ Below w.heap.size w w' := by
  obtain ⟨hs, hnil, hlen⟩ := hA
  have HN : Hid (a = none → n = 0 ∧ cap = 0) := hnil
  clear hnil
  go_enter Tryf.func3, Tryf.ntmps3
  go_wp2_with fail
  refine (zz3b_any port ns nm a n cap x pnm sv w hs).mono ?_
  rintro e w' ⟨⟨r, rfl, hr⟩, hw⟩
  subst w'
  cases r
  · go_wp2
    go_ret
    exact ⟨rfl, Below.refl _ _⟩
  obtain ⟨m0, m1, m2, m3, m4, m5⟩ := hr rfl
  have HP1 : Hid (∀ i, i < n → (sv i).pl ≤ 1048575) := m5
  have HP : Hid (∀ i, i < n → (sv i).pl ≤ 1048576) := fun i hi => (m4 i hi).2.2.1
  clear hr m5
  go_wp2_with fail
  refine (sbytes_any _ a n cap sv w (by omega) (by omega) m2 m4 hs).mono ?_
  rintro e w1 ⟨r1, rfl, h10, h11, hb1⟩
  have HS : Hid (Svcs w a n sv) := hs
  clear hs m4
  by_cases hr1 : 1048576 < r1
  · go_wp2
    go_ret
    exact ⟨rfl, hb1⟩
  by_cases hn4 : 4096 < n
  · go_wp2
    go_ret
    exact ⟨rfl, hb1⟩
  go_wp2_with fail
  refine (unique_any a n cap sv w1 m2 (HS.out.below hb1)).mono ?_
  rintro e wu ⟨r, rfl, hu, hbx⟩
  have hbu : Below w.heap.size w wu := hb1.trans (hbx.mono hb1.size)
  clear hbx
  cases r
  · go_wp2
    go_ret
    exact ⟨rfl, hbu⟩
  have HU : Hid (∀ i j, i < j → j < n → sameSv (sv i) (sv j) = false) := hu rfl
  clear hu hb1
  go_wp2_with fail
  refine (find_any a n cap sv ns nm wu m2 (HS.out.below hbu)).mono ?_
  rintro e w' ⟨rfl, hw⟩
  subst w'
  cases hk : fnd (fun i => isSv ns nm (sv i)) n 0 with
  | none =>
    have HK : Hid (fnd (fun i => isSv ns nm (sv i)) n 0 = none) := hk
    clear hk
    simp only [wi]
    by_cases hx0 : x < 0
    · go_wp2
      go_ret
      exact ⟨rfl, hbu⟩
    by_cases hx1 : (n : Int) < x
    · go_wp2
      go_ret
      exact ⟨rfl, hbu⟩
    obtain ⟨p, rfl⟩ := Int.eq_ofNat_of_zero_le (show 0 ≤ x by omega)
    go_wp2_with fail
    refine (toDoc_any a n cap sv wu (by omega) (fun h => (HN.out h).1) (HS.out.below hbu) HP.out).mono ?_
    rintro e wA1 ⟨⟨q, c, D, rfl, hq, hd⟩, hbx⟩
    have hbA1 : Below w.heap.size w wA1 := hbu.trans (hbx.mono hbu.size)
    clear hbx
    go_wp2_with fail
    refine (newRes_any q n c D sv wA1 (by omega) hq hd HU.out).mono ?_
    rintro e wA2 ⟨⟨R, rfl, hR⟩, hbx⟩
    have hbA2 : Below w.heap.size w wA2 := hbA1.trans (hbx.mono hbA1.size)
    clear hbx hq hd hbA1
    go_wp2_with fail
    refine (zzCheck_any F R n sv ns nm port wA2 (by rw [hbA2.tape]; exact hF) HP.out hR).mono ?_
    rintro e wA3 ⟨hcp, hbx⟩
    have hbA3 : Below w.heap.size w wA3 := hbA2.trans (hbx.mono hbA2.size)
    obtain ⟨vA, rfl, EA⟩ := hcp.ev
    clear hbx hR hcp hbA2
    have cA : ∀ W, Below wA3.heap.size wA3 W → Calls Tryf.prog 13 #[.slice a n cap, .string ns, .string nm, .int .i64 port] W fun e w' => e = .returned (.bool (decl sv n ns nm port)) ∧ w' = W := fun W h => declares_any a n cap sv ns nm port W m2 HP.out ((HS.out.below hbA3).below h)
    have cR : ∀ W, Calls Tryf.prog 12 #[.int .i64 port] W fun e w' => e = .returned (.bool (inR port)) ∧ w' = W := fun W => inRange_any port W
    generalize decl sv n ns nm port = dA at *
    obtain ⟨iR, hR⟩ : ∃ b, b = inR port := ⟨_, rfl⟩
    rw [← hR] at EA cR
    have HR : Hid (iR = inR port) := hR
    clear hR
    cases iR
    · rcases EA.out with ⟨h, _⟩ | ⟨_, tA, xA, rfl⟩
      · cases h
      go_wp2_with fail
      go_quiet (first | (go_at_call 12; exact Calls.quiet_of_same (cR _)) | (go_at_call 13; exact Calls.quiet_of_same (cA _ (below_drewN (Below.refl _ _) _))))
      obtain ⟨wD, hD⟩ : ∃ W : World, W = wA3.drewN nq := ⟨_, rfl⟩
      rw [← hD]
      have hbwD : Below w.heap.size w wD := by rw [hD]; exact below_drewN hbA3 _
      clear hD
      go_wp2_with fail
      refine (with_new a n cap p sv ns nm pnm port wD m2 (by omega) (HS.out.below hbwD)).mono ?_
      rintro e ww ⟨⟨g, cg, rfl, hsg⟩, hbx⟩
      have hbw : Below w.heap.size w ww := hbwD.trans (hbx.mono hbwD.size)
      obtain ⟨S, hS⟩ : ∃ S, S = insS p (frs ns nm pnm port wD.heap.size) sv := ⟨_, rfl⟩
      rw [← hS] at hsg
      have HUS : Hid (∀ i j, i < j → j < n + 1 → sameSv (S i) (S j) = false) := by rw [hS]; exact uni_new (by omega) HK.out HU.out
      have HDS : Hid (decl S (n + 1) ns nm port = true) := by rw [hS]; exact decl_new (by omega) HK.out
      have HPS : Hid (∀ i, i < n + 1 → (S i).pl ≤ 1048576) := fun i hi => by
        rw [hS]
        by_cases h1 : i < p
        · rw [insS_lt h1]; exact HP.out i (by omega)
        · by_cases h2 : i = p
          · subst h2; rw [insS_at]; show 1 ≤ 1048576; omega
          · obtain ⟨q, rfl⟩ : ∃ q, i = q + 1 := ⟨i - 1, by omega⟩
            rw [insS_succ (by omega)]; exact HP.out q (by omega)
      clear hS hbx
      go_wp2_with fail
      refine (toDoc_any (some ⟨g, 0, none⟩) (n + 1) cg S ww (by omega) (fun h => by cases h) hsg HPS.out).mono ?_
      rintro e wB1 ⟨⟨q, c, D, rfl, hq, hd⟩, hbx⟩
      have hbB1 : Below w.heap.size w wB1 := hbw.trans (hbx.mono hbw.size)
      clear hbx
      go_wp2_with fail
      refine (newRes_any q (n + 1) c D S wB1 (by omega) hq hd HUS.out).mono ?_
      rintro e wB2 ⟨⟨R, rfl, hR⟩, hbx⟩
      have hbB2 : Below w.heap.size w wB2 := hbB1.trans (hbx.mono hbB1.size)
      clear hbx hq hd hbB1
      go_wp2_with fail
      refine (zzCheck_any F R (n + 1) S ns nm port wB2 (by rw [hbB2.tape]; exact hF) HPS.out hR).mono ?_
      rintro e wB3 ⟨hcp, hbx⟩
      have hbB3 : Below w.heap.size w wB3 := hbB2.trans (hbx.mono hbB2.size)
      obtain ⟨vB, rfl, EB⟩ := hcp.ev
      clear hbx hR hcp hbB2
      rw [HDS.out, Bool.and_true, ← HR.out] at EB
      clear HUS HDS HPS hsg
      rcases EB.out with ⟨h, _⟩ | ⟨_, tB, xB, rfl⟩
      · cases h
      go_wp2_with fail
      go_quiet (first | (go_at_call 12; exact Calls.quiet_of_same (cR _)))
      go_wp2
      go_ret
      exact ⟨rfl, below_drewN hbB3 _⟩
    · cases dA
      · rcases EA.out with ⟨h, _⟩ | ⟨_, tA, xA, rfl⟩
        · cases h
        go_wp2_with fail
        go_quiet (first | (go_at_call 12; exact Calls.quiet_of_same (cR _)) | (go_at_call 13; exact Calls.quiet_of_same (cA _ (below_drewN (Below.refl _ _) _))))
        obtain ⟨wD, hD⟩ : ∃ W : World, W = wA3.drewN nq := ⟨_, rfl⟩
        rw [← hD]
        have hbwD : Below w.heap.size w wD := by rw [hD]; exact below_drewN hbA3 _
        clear hD
        go_wp2_with fail
        refine (with_new a n cap p sv ns nm pnm port wD m2 (by omega) (HS.out.below hbwD)).mono ?_
        rintro e ww ⟨⟨g, cg, rfl, hsg⟩, hbx⟩
        have hbw : Below w.heap.size w ww := hbwD.trans (hbx.mono hbwD.size)
        obtain ⟨S, hS⟩ : ∃ S, S = insS p (frs ns nm pnm port wD.heap.size) sv := ⟨_, rfl⟩
        rw [← hS] at hsg
        have HUS : Hid (∀ i j, i < j → j < n + 1 → sameSv (S i) (S j) = false) := by rw [hS]; exact uni_new (by omega) HK.out HU.out
        have HDS : Hid (decl S (n + 1) ns nm port = true) := by rw [hS]; exact decl_new (by omega) HK.out
        have HPS : Hid (∀ i, i < n + 1 → (S i).pl ≤ 1048576) := fun i hi => by
          rw [hS]
          by_cases h1 : i < p
          · rw [insS_lt h1]; exact HP.out i (by omega)
          · by_cases h2 : i = p
            · subst h2; rw [insS_at]; show 1 ≤ 1048576; omega
            · obtain ⟨q, rfl⟩ : ∃ q, i = q + 1 := ⟨i - 1, by omega⟩
              rw [insS_succ (by omega)]; exact HP.out q (by omega)
        clear hS hbx
        go_wp2_with fail
        refine (toDoc_any (some ⟨g, 0, none⟩) (n + 1) cg S ww (by omega) (fun h => by cases h) hsg HPS.out).mono ?_
        rintro e wB1 ⟨⟨q, c, D, rfl, hq, hd⟩, hbx⟩
        have hbB1 : Below w.heap.size w wB1 := hbw.trans (hbx.mono hbw.size)
        clear hbx
        go_wp2_with fail
        refine (newRes_any q (n + 1) c D S wB1 (by omega) hq hd HUS.out).mono ?_
        rintro e wB2 ⟨⟨R, rfl, hR⟩, hbx⟩
        have hbB2 : Below w.heap.size w wB2 := hbB1.trans (hbx.mono hbB1.size)
        clear hbx hq hd hbB1
        go_wp2_with fail
        refine (zzCheck_any F R (n + 1) S ns nm port wB2 (by rw [hbB2.tape]; exact hF) HPS.out hR).mono ?_
        rintro e wB3 ⟨hcp, hbx⟩
        have hbB3 : Below w.heap.size w wB3 := hbB2.trans (hbx.mono hbB2.size)
        obtain ⟨vB, rfl, EB⟩ := hcp.ev
        clear hbx hR hcp hbB2
        rw [HDS.out, Bool.and_true, ← HR.out] at EB
        clear HUS HDS HPS hsg
        rcases EB.out with ⟨_, rfl⟩ | ⟨h, _⟩
        rotate_left
        · cases h
        go_wp2_with fail
        go_quiet (first | (go_at_call 12; exact Calls.quiet_of_same (cR _)))
        go_wp2
        go_ret
        exact ⟨rfl, below_drewN hbB3 _⟩
      · rcases EA.out with ⟨_, rfl⟩ | ⟨h, _⟩
        rotate_left
        · cases h
        go_wp2_with fail
        go_quiet (first | (go_at_call 12; exact Calls.quiet_of_same (cR _)) | (go_at_call 13; exact Calls.quiet_of_same (cA _ (below_drewN (Below.refl _ _) _))))
        obtain ⟨wD, hD⟩ : ∃ W : World, W = wA3.drewN nq := ⟨_, rfl⟩
        rw [← hD]
        have hbwD : Below w.heap.size w wD := by rw [hD]; exact below_drewN hbA3 _
        clear hD
        go_wp2_with fail
        refine (with_new a n cap p sv ns nm pnm port wD m2 (by omega) (HS.out.below hbwD)).mono ?_
        rintro e ww ⟨⟨g, cg, rfl, hsg⟩, hbx⟩
        have hbw : Below w.heap.size w ww := hbwD.trans (hbx.mono hbwD.size)
        obtain ⟨S, hS⟩ : ∃ S, S = insS p (frs ns nm pnm port wD.heap.size) sv := ⟨_, rfl⟩
        rw [← hS] at hsg
        have HUS : Hid (∀ i j, i < j → j < n + 1 → sameSv (S i) (S j) = false) := by rw [hS]; exact uni_new (by omega) HK.out HU.out
        have HDS : Hid (decl S (n + 1) ns nm port = true) := by rw [hS]; exact decl_new (by omega) HK.out
        have HPS : Hid (∀ i, i < n + 1 → (S i).pl ≤ 1048576) := fun i hi => by
          rw [hS]
          by_cases h1 : i < p
          · rw [insS_lt h1]; exact HP.out i (by omega)
          · by_cases h2 : i = p
            · subst h2; rw [insS_at]; show 1 ≤ 1048576; omega
            · obtain ⟨q, rfl⟩ : ∃ q, i = q + 1 := ⟨i - 1, by omega⟩
              rw [insS_succ (by omega)]; exact HP.out q (by omega)
        clear hS hbx
        go_wp2_with fail
        refine (toDoc_any (some ⟨g, 0, none⟩) (n + 1) cg S ww (by omega) (fun h => by cases h) hsg HPS.out).mono ?_
        rintro e wB1 ⟨⟨q, c, D, rfl, hq, hd⟩, hbx⟩
        have hbB1 : Below w.heap.size w wB1 := hbw.trans (hbx.mono hbw.size)
        clear hbx
        go_wp2_with fail
        refine (newRes_any q (n + 1) c D S wB1 (by omega) hq hd HUS.out).mono ?_
        rintro e wB2 ⟨⟨R, rfl, hR⟩, hbx⟩
        have hbB2 : Below w.heap.size w wB2 := hbB1.trans (hbx.mono hbB1.size)
        clear hbx hq hd hbB1
        go_wp2_with fail
        refine (zzCheck_any F R (n + 1) S ns nm port wB2 (by rw [hbB2.tape]; exact hF) HPS.out hR).mono ?_
        rintro e wB3 ⟨hcp, hbx⟩
        have hbB3 : Below w.heap.size w wB3 := hbB2.trans (hbx.mono hbB2.size)
        obtain ⟨vB, rfl, EB⟩ := hcp.ev
        clear hbx hR hcp hbB2
        rw [HDS.out, Bool.and_true, ← HR.out] at EB
        clear HUS HDS HPS hsg
        rcases EB.out with ⟨_, rfl⟩ | ⟨h, _⟩
        rotate_left
        · cases h
        go_wp2_with fail
        go_quiet (first | (go_at_call 12; exact Calls.quiet_of_same (cR _)))
        go_wp2
        go_ret
        exact ⟨rfl, below_drewN hbB3 _⟩
  | some k =>
    obtain ⟨_, hk2, _⟩ := fnd_lt n 0 k hk
    have hkn : k < n := by omega
    have HK : Hid (fnd (fun i => isSv ns nm (sv i)) n 0 = some k) := hk
    clear hk hk2
    simp only [wi]
    have hpk := HP1.out k hkn
    have c2 : ∃ b off, a = some ⟨b, off, none⟩ ∧ wu.cell? ⟨b, off + k * 3 + 2, none⟩ = some (.slice (sv k).pa (sv k).pl (sv k).pc) := by
      rcases HS.out.below hbu with h0 | ⟨b, off, h1, _, h3⟩
      · omega
      · exact ⟨b, off, h1, (h3 k hkn).2.2.1⟩
    obtain ⟨b, off, rfl, c2⟩ := c2
    by_cases hx0 : x < 0
    · go_wp2
      go_ret
      exact ⟨rfl, hbu⟩
    by_cases hx1 : ((sv k).pl : Int) < x
    · go_wp2
      go_ret
      exact ⟨rfl, hbu⟩
    obtain ⟨p, rfl⟩ := Int.eq_ofNat_of_zero_le (show 0 ≤ x by omega)
    go_wp2_with fail
    refine (toDoc_any (some ⟨b, off, none⟩) n cap sv wu (by omega) (fun h => (HN.out h).1) (HS.out.below hbu) HP.out).mono ?_
    rintro e wA1 ⟨⟨q, c, D, rfl, hq, hd⟩, hbx⟩
    have hbA1 : Below w.heap.size w wA1 := hbu.trans (hbx.mono hbu.size)
    clear hbx
    go_wp2_with fail
    refine (newRes_any q n c D sv wA1 (by omega) hq hd HU.out).mono ?_
    rintro e wA2 ⟨⟨R, rfl, hR⟩, hbx⟩
    have hbA2 : Below w.heap.size w wA2 := hbA1.trans (hbx.mono hbA1.size)
    clear hbx hq hd hbA1
    go_wp2_with fail
    refine (zzCheck_any F R n sv ns nm port wA2 (by rw [hbA2.tape]; exact hF) HP.out hR).mono ?_
    rintro e wA3 ⟨hcp, hbx⟩
    have hbA3 : Below w.heap.size w wA3 := hbA2.trans (hbx.mono hbA2.size)
    obtain ⟨vA, rfl, EA⟩ := hcp.ev
    clear hbx hR hcp hbA2
    have cA : ∀ W, Below wA3.heap.size wA3 W → Calls Tryf.prog 13 #[.slice (some ⟨b, off, none⟩) n cap, .string ns, .string nm, .int .i64 port] W fun e w' => e = .returned (.bool (decl sv n ns nm port)) ∧ w' = W := fun W h => declares_any (some ⟨b, off, none⟩) n cap sv ns nm port W m2 HP.out ((HS.out.below hbA3).below h)
    have cR : ∀ W, Calls Tryf.prog 12 #[.int .i64 port] W fun e w' => e = .returned (.bool (inR port)) ∧ w' = W := fun W => inRange_any port W
    generalize decl sv n ns nm port = dA at *
    clear c2
    obtain ⟨iR, hR⟩ : ∃ b, b = inR port := ⟨_, rfl⟩
    rw [← hR] at EA cR
    have HR : Hid (iR = inR port) := hR
    clear hR
    cases iR
    · rcases EA.out with ⟨h, _⟩ | ⟨_, tA, xA, rfl⟩
      · cases h
      go_wp2_with fail
      go_quiet (first | (go_at_call 12; exact Calls.quiet_of_same (cR _)) | (go_at_call 13; exact Calls.quiet_of_same (cA _ (below_drewN (Below.refl _ _) _))))
      obtain ⟨wD, hD⟩ : ∃ W : World, W = wA3.drewN nq := ⟨_, rfl⟩
      rw [← hD]
      have hbwD : Below w.heap.size w wD := by rw [hD]; exact below_drewN hbA3 _
      clear hD
      go_wp2_with fail
      refine (with_old (some ⟨b, off, none⟩) n cap k p sv ns nm pnm port wD m2 hkn (by omega) (by omega) (HS.out.below hbwD)).mono ?_
      rintro e ww ⟨⟨g, cg, s2, hgood, rfl, hsg⟩, hbx⟩
      have hbw : Below w.heap.size w ww := hbwD.trans (hbx.mono hbwD.size)
      obtain ⟨S, hS⟩ : ∃ S, S = updS k s2 sv := ⟨_, rfl⟩
      rw [← hS] at hsg
      have HUS : Hid (∀ i j, i < j → j < n → sameSv (S i) (S j) = false) := fun i j h1 h2 => by rw [hS, same_upd hgood]; exact HU.out i j h1 h2
      have HDS : Hid (decl S n ns nm port = true) := by rw [hS]; exact decl_old hgood HK.out
      have HPS : Hid (∀ i, i < n → (S i).pl ≤ 1048576) := fun i hi => by
        rw [hS]
        by_cases h1 : i = k
        · subst h1; rw [updS_at, hgood.2.2.1]; omega
        · rw [updS_ne h1]; exact HP.out i hi
      clear hS hbx hgood
      go_wp2_with fail
      refine (toDoc_any (some ⟨g, 0, none⟩) n cg S ww (by omega) (fun h => by cases h) hsg HPS.out).mono ?_
      rintro e wB1 ⟨⟨q, c, D, rfl, hq, hd⟩, hbx⟩
      have hbB1 : Below w.heap.size w wB1 := hbw.trans (hbx.mono hbw.size)
      clear hbx
      go_wp2_with fail
      refine (newRes_any q n c D S wB1 (by omega) hq hd HUS.out).mono ?_
      rintro e wB2 ⟨⟨R, rfl, hR⟩, hbx⟩
      have hbB2 : Below w.heap.size w wB2 := hbB1.trans (hbx.mono hbB1.size)
      clear hbx hq hd hbB1
      go_wp2_with fail
      refine (zzCheck_any F R n S ns nm port wB2 (by rw [hbB2.tape]; exact hF) HPS.out hR).mono ?_
      rintro e wB3 ⟨hcp, hbx⟩
      have hbB3 : Below w.heap.size w wB3 := hbB2.trans (hbx.mono hbB2.size)
      obtain ⟨vB, rfl, EB⟩ := hcp.ev
      clear hbx hR hcp hbB2
      rw [HDS.out, Bool.and_true, ← HR.out] at EB
      clear HUS HDS HPS hsg
      rcases EB.out with ⟨h, _⟩ | ⟨_, tB, xB, rfl⟩
      · cases h
      go_wp2_with fail
      go_quiet (first | (go_at_call 12; exact Calls.quiet_of_same (cR _)))
      go_wp2
      go_ret
      exact ⟨rfl, below_drewN hbB3 _⟩
    · cases dA
      · rcases EA.out with ⟨h, _⟩ | ⟨_, tA, xA, rfl⟩
        · cases h
        go_wp2_with fail
        go_quiet (first | (go_at_call 12; exact Calls.quiet_of_same (cR _)) | (go_at_call 13; exact Calls.quiet_of_same (cA _ (below_drewN (Below.refl _ _) _))))
        obtain ⟨wD, hD⟩ : ∃ W : World, W = wA3.drewN nq := ⟨_, rfl⟩
        rw [← hD]
        have hbwD : Below w.heap.size w wD := by rw [hD]; exact below_drewN hbA3 _
        clear hD
        go_wp2_with fail
        refine (with_old (some ⟨b, off, none⟩) n cap k p sv ns nm pnm port wD m2 hkn (by omega) (by omega) (HS.out.below hbwD)).mono ?_
        rintro e ww ⟨⟨g, cg, s2, hgood, rfl, hsg⟩, hbx⟩
        have hbw : Below w.heap.size w ww := hbwD.trans (hbx.mono hbwD.size)
        obtain ⟨S, hS⟩ : ∃ S, S = updS k s2 sv := ⟨_, rfl⟩
        rw [← hS] at hsg
        have HUS : Hid (∀ i j, i < j → j < n → sameSv (S i) (S j) = false) := fun i j h1 h2 => by rw [hS, same_upd hgood]; exact HU.out i j h1 h2
        have HDS : Hid (decl S n ns nm port = true) := by rw [hS]; exact decl_old hgood HK.out
        have HPS : Hid (∀ i, i < n → (S i).pl ≤ 1048576) := fun i hi => by
          rw [hS]
          by_cases h1 : i = k
          · subst h1; rw [updS_at, hgood.2.2.1]; omega
          · rw [updS_ne h1]; exact HP.out i hi
        clear hS hbx hgood
        go_wp2_with fail
        refine (toDoc_any (some ⟨g, 0, none⟩) n cg S ww (by omega) (fun h => by cases h) hsg HPS.out).mono ?_
        rintro e wB1 ⟨⟨q, c, D, rfl, hq, hd⟩, hbx⟩
        have hbB1 : Below w.heap.size w wB1 := hbw.trans (hbx.mono hbw.size)
        clear hbx
        go_wp2_with fail
        refine (newRes_any q n c D S wB1 (by omega) hq hd HUS.out).mono ?_
        rintro e wB2 ⟨⟨R, rfl, hR⟩, hbx⟩
        have hbB2 : Below w.heap.size w wB2 := hbB1.trans (hbx.mono hbB1.size)
        clear hbx hq hd hbB1
        go_wp2_with fail
        refine (zzCheck_any F R n S ns nm port wB2 (by rw [hbB2.tape]; exact hF) HPS.out hR).mono ?_
        rintro e wB3 ⟨hcp, hbx⟩
        have hbB3 : Below w.heap.size w wB3 := hbB2.trans (hbx.mono hbB2.size)
        obtain ⟨vB, rfl, EB⟩ := hcp.ev
        clear hbx hR hcp hbB2
        rw [HDS.out, Bool.and_true, ← HR.out] at EB
        clear HUS HDS HPS hsg
        rcases EB.out with ⟨_, rfl⟩ | ⟨h, _⟩
        rotate_left
        · cases h
        go_wp2_with fail
        go_quiet (first | (go_at_call 12; exact Calls.quiet_of_same (cR _)))
        go_wp2
        go_ret
        exact ⟨rfl, below_drewN hbB3 _⟩
      · rcases EA.out with ⟨_, rfl⟩ | ⟨h, _⟩
        rotate_left
        · cases h
        go_wp2_with fail
        go_quiet (first | (go_at_call 12; exact Calls.quiet_of_same (cR _)) | (go_at_call 13; exact Calls.quiet_of_same (cA _ (below_drewN (Below.refl _ _) _))))
        obtain ⟨wD, hD⟩ : ∃ W : World, W = wA3.drewN nq := ⟨_, rfl⟩
        rw [← hD]
        have hbwD : Below w.heap.size w wD := by rw [hD]; exact below_drewN hbA3 _
        clear hD
        go_wp2_with fail
        refine (with_old (some ⟨b, off, none⟩) n cap k p sv ns nm pnm port wD m2 hkn (by omega) (by omega) (HS.out.below hbwD)).mono ?_
        rintro e ww ⟨⟨g, cg, s2, hgood, rfl, hsg⟩, hbx⟩
        have hbw : Below w.heap.size w ww := hbwD.trans (hbx.mono hbwD.size)
        obtain ⟨S, hS⟩ : ∃ S, S = updS k s2 sv := ⟨_, rfl⟩
        rw [← hS] at hsg
        have HUS : Hid (∀ i j, i < j → j < n → sameSv (S i) (S j) = false) := fun i j h1 h2 => by rw [hS, same_upd hgood]; exact HU.out i j h1 h2
        have HDS : Hid (decl S n ns nm port = true) := by rw [hS]; exact decl_old hgood HK.out
        have HPS : Hid (∀ i, i < n → (S i).pl ≤ 1048576) := fun i hi => by
          rw [hS]
          by_cases h1 : i = k
          · subst h1; rw [updS_at, hgood.2.2.1]; omega
          · rw [updS_ne h1]; exact HP.out i hi
        clear hS hbx hgood
        go_wp2_with fail
        refine (toDoc_any (some ⟨g, 0, none⟩) n cg S ww (by omega) (fun h => by cases h) hsg HPS.out).mono ?_
        rintro e wB1 ⟨⟨q, c, D, rfl, hq, hd⟩, hbx⟩
        have hbB1 : Below w.heap.size w wB1 := hbw.trans (hbx.mono hbw.size)
        clear hbx
        go_wp2_with fail
        refine (newRes_any q n c D S wB1 (by omega) hq hd HUS.out).mono ?_
        rintro e wB2 ⟨⟨R, rfl, hR⟩, hbx⟩
        have hbB2 : Below w.heap.size w wB2 := hbB1.trans (hbx.mono hbB1.size)
        clear hbx hq hd hbB1
        go_wp2_with fail
        refine (zzCheck_any F R n S ns nm port wB2 (by rw [hbB2.tape]; exact hF) HPS.out hR).mono ?_
        rintro e wB3 ⟨hcp, hbx⟩
        have hbB3 : Below w.heap.size w wB3 := hbB2.trans (hbx.mono hbB2.size)
        obtain ⟨vB, rfl, EB⟩ := hcp.ev
        clear hbx hR hcp hbB2
        rw [HDS.out, Bool.and_true, ← HR.out] at EB
        clear HUS HDS HPS hsg
        rcases EB.out with ⟨_, rfl⟩ | ⟨h, _⟩
        rotate_left
        · cases h
        go_wp2_with fail
        go_quiet (first | (go_at_call 12; exact Calls.quiet_of_same (cR _)))
        go_wp2
        go_ret
        exact ⟨rfl, below_drewN hbB3 _⟩
end Go.Proofs.Qxb6616015aFmt
