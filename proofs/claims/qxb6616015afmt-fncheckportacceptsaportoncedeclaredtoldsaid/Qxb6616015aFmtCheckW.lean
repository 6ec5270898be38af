import Derived.Test.Qxb6616015aFmtMapB
import Derived.Stop.CallBack
import Derived.Stop.IfaceNil
import GoSem.ClaimData
namespace Go.Proofs.Qxb6616015aFmt
open Go.RowKit Go.Extern.Stop Go.Stop Go.Extern

theorem Tryf.call19 (args : Array Value) (w : World) : (callFunc 19 args).run Tryf.prog w = ((FmtStop.errorf #[9, 84] #[31] args).run Tryf.prog w).andThen fun v w' => .ok (.value v) w' :=
  run_callFunc_extern Tryf.func19 (by kernel_rfl) (by kernel_rfl) (by kernel_rfl) (by kernel_rfl) args w
theorem Tryf.guard (name : String) (w : World) : (FmtStop.guard name).run Tryf.prog w = .ok () w := by kernel_rfl
theorem Tryf.fmt0 : FmtStop.printed? ⟨#[37, 100, 32, 105, 115, 32, 110, 111, 116, 32, 97, 32, 112, 111, 114, 116, 32, 110, 117, 109, 98, 101, 114]⟩ 1 = some [(0, 100, false)] := by kernel_rfl
theorem Tryf.fmt0r (w : World) : (FmtDoors.printed ⟨#[37, 100, 32, 105, 115, 32, 110, 111, 116, 32, 97, 32, 112, 111, 114, 116, 32, 110, 117, 109, 98, 101, 114]⟩ 1).run Tryf.prog w = .ok [(0, 100, false)] w := by kernel_rfl
theorem Tryf.fmt1 : FmtStop.printed? ⟨#[83, 101, 114, 118, 105, 99, 101, 32, 37, 115, 47, 37, 115, 32, 104, 97, 115, 32, 110, 111, 32, 112, 111, 114, 116, 32, 37, 100]⟩ 3 = some [(0, 115, false), (1, 115, false), (2, 100, false)] := by kernel_rfl
theorem Tryf.fmt1r (w : World) : (FmtDoors.printed ⟨#[83, 101, 114, 118, 105, 99, 101, 32, 37, 115, 47, 37, 115, 32, 104, 97, 115, 32, 110, 111, 32, 112, 111, 114, 116, 32, 37, 100]⟩ 3).run Tryf.prog w = .ok [(0, 115, false), (1, 115, false), (2, 100, false)] w := by kernel_rfl
def Tryf.shape9 : List UInt8 := [12, 6, 0, 0, 0, 0, 0, 0, 0, 115, 116, 114, 105, 110, 103]
theorem Tryf.op9_115 (name : String) (x : ByteArray) (w : World) : (FmtStop.operand name false 115 false (.iface 9 (.string x))).run Tryf.prog w = .ok (Tryf.shape9, FmtStop.pack x.data.toList) w := by kernel_rfl
theorem Tryf.op9_115w (name : String) (x : ByteArray) (w : World) : (FmtStop.operand name true 115 false (.iface 9 (.string x))).run Tryf.prog w = .ok (Tryf.shape9, FmtStop.pack x.data.toList) w := by kernel_rfl
def Tryf.shape3 : List UInt8 := [5, 3, 0, 0, 0, 0, 0, 0, 0, 105, 110, 116]
theorem Tryf.op3_100 (name : String) (x : Int) (w : World) : (FmtStop.operand name false 100 false (.iface 3 (.int .i64 x))).run Tryf.prog w = .ok (Tryf.shape3, Go.Extern.Stop.digits 8 (x % 2 ^ 64).toNat) w := by kernel_rfl
theorem Tryf.op3_100w (name : String) (x : Int) (w : World) : (FmtStop.operand name true 100 false (.iface 3 (.int .i64 x))).run Tryf.prog w = .ok (Tryf.shape3, Go.Extern.Stop.digits 8 (x % 2 ^ 64).toNat) w := by kernel_rfl
theorem Tryf.ptr88 (w : World) : (FmtStop.ptrTo "errors.errorString").run Tryf.prog w = .ok 88 w := by kernel_rfl
theorem Tryf.elem88 (w : World) : (elemOf 88).run Tryf.prog w = .ok 90 w := by kernel_rfl
theorem Tryf.isError88' (w : World) : (FmtDoors.textMethod 88 "Error").run Tryf.prog w = .ok true w := by kernel_rfl

attribute [local go_sem] Tryf.call19 Tryf.guard Tryf.fmt0 Tryf.fmt0r Tryf.fmt1 Tryf.fmt1r Tryf.op9_115 Tryf.op9_115w Tryf.op3_100 Tryf.op3_100w Tryf.ptr88 Tryf.elem88 Tryf.isError88'

/-- an error was returned, one that is not nil -/
def Err (e : Ending) : Prop := ∃ t v, e = .returned (.iface t v)

set_option maxHeartbeats 400000 in
theorem errorf1 (F : Interp) (port : Int) (o : Nat) (w : World) (hF : F.answers w.tape) (hc : w.cell? ⟨o, 0, none⟩ = some (.iface 3 (.int .i64 port))) :
    Calls Tryf.prog 17 #[.string ⟨#[37, 100, 32, 105, 115, 32, 110, 111, 116, 32, 97, 32, 112, 111, 114, 116, 32, 110, 117, 109, 98, 101, 114]⟩, .slice (some ⟨o, 0, none⟩) 1 1] w fun e w' => Err e ∧ Below w.heap.size w w' := by
  have hF' := answers_open hF
  go_enter Tryf.func17, Tryf.ntmps17
  go_wp2
  go_ret
  exact ⟨⟨_, _, rfl⟩, ((Below.refl _ _).alloc (Nat.le_refl _) _).drew⟩
set_option maxHeartbeats 400000 in
theorem errorf3 (F : Interp) (ns nm : ByteArray) (port : Int) (o : Nat) (w : World) (hF : F.answers w.tape) (hc0 : w.cell? ⟨o, 0, none⟩ = some (.iface 9 (.string ns))) (hc1 : w.cell? ⟨o, 1, none⟩ = some (.iface 9 (.string nm))) (hc2 : w.cell? ⟨o, 2, none⟩ = some (.iface 3 (.int .i64 port))) :
    Calls Tryf.prog 17 #[.string ⟨#[83, 101, 114, 118, 105, 99, 101, 32, 37, 115, 47, 37, 115, 32, 104, 97, 115, 32, 110, 111, 32, 112, 111, 114, 116, 32, 37, 100]⟩, .slice (some ⟨o, 0, none⟩) 3 3] w fun e w' => Err e ∧ Below w.heap.size w w' := by
  have hF' := answers_open hF
  go_enter Tryf.func17, Tryf.ntmps17
  go_wp2
  go_ret
  exact ⟨⟨_, _, rfl⟩, ((Below.refl _ _).alloc (Nat.le_refl _) _).drew⟩

/-- checkPort's answer: nil just where ok -/
def CP (ok : Bool) (e : Ending) : Prop := (ok = true ∧ e = .returned .nilIface) ∨ (ok = false ∧ Err e)
def inR (port : Int) : Bool := decide (1 ≤ port) && decide (port ≤ 65535)

set_option maxHeartbeats 1000000 in
theorem checkPort_any (F : Interp) (R n : Nat) (sv : Nat → Svc) (ns nm : ByteArray) (port : Int) (w : World) (hF : F.answers w.tape) (hp : ∀ i, i < n → (sv i).pl ≤ 1048576) (hr : Res w R n sv) :
    Calls Tryf.prog 16 #[.int .i64 port, .string ns, .string nm, .pointer (some ⟨R, 0, none⟩)] w fun e w' => CP (inR port && decl sv n ns nm port) e ∧ Below w.heap.size w w' := by
  by_cases h1 : port < 1
  · have hz : (inR port && decl sv n ns nm port) = false := by
      have : inR port = false := by simp [inR]; omega
      rw [this]; rfl
    rw [hz]
    clear hz hr hp
    go_enter Tryf.func16, Tryf.ntmps16
    go_wp2_with fail
    refine (errorf1 F port w.heap.size _ (by exact hF) (by go_simp)).mono ?_
    rintro e w' ⟨⟨t, v, rfl⟩, hb⟩
    go_wp2
    go_ret
    exact ⟨.inr ⟨rfl, t, v, rfl⟩, ((Below.refl _ _).alloc (Nat.le_refl _) _).trans (hb.mono (by simp))⟩
  by_cases h2 : 65535 < port
  · have hz : (inR port && decl sv n ns nm port) = false := by
      have : inR port = false := by simp [inR]; omega
      rw [this]; rfl
    rw [hz]
    clear hz hr hp
    go_enter Tryf.func16, Tryf.ntmps16
    go_wp2_with fail
    refine (errorf1 F port w.heap.size _ (by exact hF) (by go_simp)).mono ?_
    rintro e w' ⟨⟨t, v, rfl⟩, hb⟩
    go_wp2
    go_ret
    exact ⟨.inr ⟨rfl, t, v, rfl⟩, ((Below.refl _ _).alloc (Nat.le_refl _) _).trans (hb.mono (by simp))⟩
  have hz : (inR port && decl sv n ns nm port) = decl sv n ns nm port := by
    have : inR port = true := by simp [inR]; omega
    rw [this]; rfl
  rw [hz]
  have hcall := portName_any R n sv ns nm port w hp hr
  clear hz hr hp
  generalize decl sv n ns nm port = b at hcall ⊢
  cases b
  · go_enter Tryf.func16, Tryf.ntmps16
    go_wp2_with fail
    refine hcall.mono ?_
    rintro e w1 ⟨⟨s, rfl⟩, hb1⟩
    go_wp2_with fail
    refine (errorf3 F ns nm port w1.heap.size _ (by show F.answers w1.tape; rw [hb1.tape]; exact hF) (by go_simp) (by go_simp) (by go_simp)).mono ?_
    rintro e w' ⟨⟨t, v, rfl⟩, hb⟩
    go_wp2
    go_ret
    exact ⟨.inr ⟨rfl, t, v, rfl⟩, hb1.trans ((((Below.refl _ _).alloc (Nat.le_refl _) _).trans (hb.mono (by simp))).mono hb1.size)⟩
  · go_enter Tryf.func16, Tryf.ntmps16
    go_wp2_with fail
    refine hcall.mono ?_
    rintro e w1 ⟨⟨s, rfl⟩, hb1⟩
    go_wp2
    go_ret
    exact ⟨.inl ⟨rfl, rfl⟩, hb1⟩

set_option maxHeartbeats 400000 in
theorem zzCheck_any (F : Interp) (R n : Nat) (sv : Nat → Svc) (ns nm : ByteArray) (port : Int) (w : World) (hF : F.answers w.tape) (hp : ∀ i, i < n → (sv i).pl ≤ 1048576) (hr : Res w R n sv) :
    Calls Tryf.prog 9 #[.int .i64 port, .string ns, .string nm, .pointer (some ⟨R, 0, none⟩)] w fun e w' => CP (inR port && decl sv n ns nm port) e ∧ Below w.heap.size w w' := by
  have hcall := checkPort_any F R n sv ns nm port w hF hp hr
  clear hr hp
  go_enter Tryf.func9, Tryf.ntmps9
  go_wp2_with fail
  refine hcall.mono ?_
  rintro e w1 ⟨hcp, hb1⟩
  rcases hcp with ⟨h, rfl⟩ | ⟨h, t, v, rfl⟩
  · go_wp2
    go_ret
    exact ⟨.inl ⟨h, rfl⟩, hb1⟩
  · go_wp2
    go_ret
    exact ⟨.inr ⟨h, t, v, rfl⟩, hb1⟩
end Go.Proofs.Qxb6616015aFmt
