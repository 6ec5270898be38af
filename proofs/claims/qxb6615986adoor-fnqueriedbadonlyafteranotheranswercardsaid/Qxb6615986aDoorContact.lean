import Derived.Test.Qxb6615986aDoorBase
namespace Go.Proofs.Qxb6615986aDoor
open Go.RowKit

/-- the number that AddrFrom4 makes of four bytes -/
def lo4 (p : Nat → Int) : Int := bits .or .u64 (bits .or .u64 (bits .or .u64 (bits .or .u64 281470681743360 (p 0 * 16777216)) (p 1 * 65536)) (p 2 * 256)) (p 3)
/-- the four cells of an address -/
def ipv (p : Nat → Int) : Array Value := #[.int .u8 (p 0), .int .u8 (p 1), .int .u8 (p 2), .int .u8 (p 3)]

set_option maxHeartbeats 1000000 in
theorem from4_any (p : Nat → Int) (z : Addr) (w : World) (hp : ∀ i, 0 ≤ p i ∧ p i < 256) (hz : w.cell? ⟨0, 0, none⟩ = some (.pointer (some z))) (hsz : 0 < w.heap.size) :
    Calls Tryd.prog 14 #[.agg (ipv p)] w fun e w' => e = .returned (.agg #[.int .u64 0, .int .u64 (lo4 p), .pointer (some z)]) ∧ w' = (w.alloc (.cells (ipv p) 23)).alloc (.cells #[.int .u64 0, .int .u64 (lo4 p), .pointer (some z)] 45) := by
  have p0 := hp 0
  have p1 := hp 1
  have p2 := hp 2
  have p3 := hp 3
  clear hp
  unfold ipv
  go_enter Tryd.func14, Tryd.ntmps14
  go_wp2
  exact bodyPost_ret (v := .agg #[.int .u64 0, .int .u64 (lo4 p), .pointer (some z)]) (by simp [results, Tryd.results14, go_sem, lo4]) rfl ⟨rfl, rfl⟩

set_option maxHeartbeats 1000000 in
theorem portFrom_any (L q : Int) (z : Addr) (w : World) :
    Calls Tryd.prog 13 #[.agg #[.int .u64 0, .int .u64 L, .pointer (some z)], .int .u16 q] w fun e w' => e = .returned (.agg #[.int .u64 0, .int .u64 L, .pointer (some z), .int .u16 q]) ∧ w' = (w.alloc (.cells #[.int .u64 0, .int .u64 L, .pointer (some z)] 45)).alloc (.cells #[.int .u64 0, .int .u64 L, .pointer (some z), .int .u16 q] 47) := by
  go_enter Tryd.func13, Tryd.ntmps13
  go_wp2
  exact bodyPost_ret (v := .agg #[.int .u64 0, .int .u64 L, .pointer (some z), .int .u16 q]) (by simp [results, Tryd.results13, go_sem]) rfl ⟨rfl, rfl⟩

attribute [-go_sem] loadVar storeVar Instr.build
attribute [-simp] Tryd.zeroValue49
attribute [local go_sem] lvs svs bds idAt_drew idAt_alloc hasId_self hasId_app idAt_setCell idAt_setCells cell_setCells frozen_setCells roomAt_drew roomAt_alloc hasRoom_cells

/-- a contact's cells -/
def ctv (s : ID20) (p : Nat → Int) (z : Addr) (q : Int) : Array Value := idv s ++ #[.int .u64 0, .int .u64 (lo4 p), .pointer (some z), .int .u16 q]
theorem ctv_size (s : ID20) (p : Nat → Int) (z : Addr) (q : Int) : (ctv s p z q).size = 24 := by simp [ctv, idv_size]
theorem ctv_one (s : ID20) (p : Nat → Int) (z : Addr) (q : Int) : (ctv s p z q).all (·.oneCell') = true := by
  have := idv_one s
  simp only [ctv, Array.all_append, this, Bool.true_and]
  simp [Value.oneCell']
/-- the zero contact's cells -/
def zc49 : Array Value := idv ⟨List.replicate 20 0, rfl⟩ ++ #[.int .u64 0, .int .u64 0, .pointer none, .int .u16 0]
theorem zc49_size : zc49.size = 24 := rfl
theorem zero49 (w : World) : (zeroValue 49).run Tryd.prog w = .ok (.agg zc49) w := Tryd.zeroValue49 w
theorem ld49_set (C : Array Value) (hl : C.size = 24) (b : Nat) (W : World) (h : roomAt W b 24) : (loadVar 49 ⟨b, 0, none⟩).run Tryd.prog (W.setCells b 0 C.toList) = .ok (.agg C) (W.setCells b 0 C.toList) := by
  have e : C.toList.length = 24 := by simpa using hl
  exact run_loadVar_mid _ b 0 49 C.toList _ (World.rangeAt_setCells_same W b 0 C.toList (by rw [e]; exact h)) Tryd.underlying49 rfl (info49 _ e)

set_option maxRecDepth 8000 in
set_option maxHeartbeats 4000000 in
theorem contact_any (s : ID20) (p : Nat → Int) (q : Int) (z : Addr) (w : World) (hp : ∀ i, 0 ≤ p i ∧ p i < 256) (hz : w.cell? ⟨0, 0, none⟩ = some (.pointer (some z))) (hsz : 0 < w.heap.size) :
    Calls Tryd.prog 11 #[.agg (idv s), .agg (ipv p), .int .u16 q] w fun e w' => e = .returned (.agg (ctv s p z q)) ∧ Below w.heap.size w w' := by
  have H : Hid (∀ i, 0 ≤ p i ∧ p i < 256) := hp
  clear hp
  have z49 := zero49
  have s49 := zc49_size
  have l22 := ld22 w.heap.size s
  have b49 := build49 s (.int .u64 0) (.int .u64 (lo4 p)) (.pointer (some z)) (.int .u16 q)
  have st := st49 (ctv s p z q) (ctv_size s p z q) (ctv_one s p z q) (w.heap.size + 1 + 1)
  rw [← ctv] at b49
  unfold ipv
  go_enter Tryd.func11, Tryd.ntmps11
  go_wp2_with fail
  go_region_with (first | (go_at_call 14; refine (from4_any p z _ H.out (by go_simp) (by go_simp)).mono ?_; rintro e w' ⟨rfl, hw⟩; subst w') | (go_at_call 13; refine (portFrom_any (lo4 p) q z _).mono ?_; rintro e w' ⟨rfl, hw⟩; subst w'))
  all_goals
    go_wp2_with fail
    have l49 := ld49_set (ctv s p z q) (ctv_size s p z q) (w.heap.size + 1 + 1)
    refine bodyPost_ret (v := .agg (ctv s p z q)) (by simp [results, Tryd.results11, go_sem, l49, s49]) rfl ⟨rfl, ?_⟩
    refine below_setCells ?_ (by omega) _ _
    exact (((((((((Below.refl _ _).alloc (Nat.le_refl _) _).alloc (by simp) _).alloc (by simp; omega) _).alloc (by simp; omega) _).alloc (by simp; omega) _).alloc (by simp; omega) _).alloc (by simp; omega) _)).drew
end Go.Proofs.Qxb6615986aDoor
