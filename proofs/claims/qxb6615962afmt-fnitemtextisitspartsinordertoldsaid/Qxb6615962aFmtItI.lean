import Derived.Test.Qxb6615962aFmtItG
namespace Go.Proofs.Qxb6615962aFmt
open Go.RowKit
def u8 (a : Int) : UInt8 := UInt8.ofNat a.toNat
theorem u8_nat (a : Int) (h0 : 0 ≤ a) (h1 : a < 256) : ((u8 a).toNat : Int) = a := by
  unfold u8
  rw [UInt8.toNat_ofNat']
  omega
theorem cv4 (w : World) (a b c d : Int) (ha : 0 ≤ a ∧ a < 256) (hb : 0 ≤ b ∧ b < 256) (hc : 0 ≤ c ∧ c < 256) (hd : 0 ≤ d ∧ d < 256) :
    (convert 36 9 (.slice (some ⟨w.heap.size, 0, none⟩) 4 4)).run Tryf.prog (w.alloc (.cells #[.int .u8 a, .int .u8 b, .int .u8 c, .int .u8 d] 5)) = .ok (.string ⟨#[u8 a, u8 b, u8 c, u8 d]⟩) (w.alloc (.cells #[.int .u8 a, .int .u8 b, .int .u8 c, .int .u8 d] 5)) := by
  have h := Lib.run_convert_whole (P := Tryf.prog) (w.alloc (.cells #[.int .u8 a, .int .u8 b, .int .u8 c, .int .u8 d] 5)) 36 5 9 Tryf.underlying36 Tryf.underlying5 Tryf.underlying9 w.heap.size 0 ⟨#[u8 a, u8 b, u8 c, u8 d]⟩ ?_ 4
  · exact h
  · intro i hi
    have hi' : i < 4 := hi
    rw [World.cell?_alloc_new]
    match i, hi' with
    | 0, _ => show some (Value.int .u8 a) = some (.int .u8 ((u8 a).toNat : Int)); rw [u8_nat a ha.1 ha.2]
    | 1, _ => show some (Value.int .u8 b) = some (.int .u8 ((u8 b).toNat : Int)); rw [u8_nat b hb.1 hb.2]
    | 2, _ => show some (Value.int .u8 c) = some (.int .u8 ((u8 c).toNat : Int)); rw [u8_nat c hc.1 hc.2]
    | 3, _ => show some (Value.int .u8 d) = some (.int .u8 ((u8 d).toNat : Int)); rw [u8_nat d hd.1 hd.2]
/-- two digits' numbers -/
def dA (n : Int) : Int := wrap64 (48 + wrap64 (n.tdiv 10)) % 256
def dB (n : Int) : Int := wrap64 (48 + n.tmod 10) % 256
theorem dA_b (n : Int) : 0 ≤ dA n ∧ dA n < 256 := by unfold dA; omega
theorem dB_b (n : Int) : 0 ≤ dB n ∧ dB n < 256 := by unfold dB; omega
/-- a clock's four bytes -/
def cb (m : Int) : List UInt8 := [u8 (dA (wrap64 (m.tdiv 60))), u8 (dB (wrap64 (m.tdiv 60))), u8 (dA (m.tmod 60)), u8 (dB (m.tmod 60))]
theorem tmod6010 (m : Int) : m.tmod 10 = (m.tmod 60).tmod 10 := by
  rw [Int.tmod_tmod_of_dvd]
  exact ⟨6, rfl⟩
set_option maxHeartbeats 2000000 in
set_option maxRecDepth 8000 in
theorem clockText_any (m : Int) (w : World) : Calls Tryf.prog 29 #[.int .i64 m] w fun e w' => e = .returned (.string ⟨(cb m).toArray⟩) ∧ Below w.heap.size w w' := by
  have HC : Hid ((convert 36 9 (.slice (some ⟨w.heap.size, 0, none⟩) 4 4)).run Tryf.prog (w.alloc (.cells #[.int .u8 (dA (wrap64 (m.tdiv 60))), .int .u8 (dB (wrap64 (m.tdiv 60))), .int .u8 (dA (m.tmod 60)), .int .u8 (dB (m.tmod 60))] 5)) = .ok (.string ⟨(cb m).toArray⟩) (w.alloc (.cells #[.int .u8 (dA (wrap64 (m.tdiv 60))), .int .u8 (dB (wrap64 (m.tdiv 60))), .int .u8 (dA (m.tmod 60)), .int .u8 (dB (m.tmod 60))] 5))) :=
    cv4 w _ _ _ _ (dA_b _) (dB_b _) (dA_b _) (dB_b _)
  go_enter Tryf.func29, Tryf.ntmps29
  go_wp2_with fail
  rw [tmod6010 m]
  have h := HC.out
  unfold dA dB at h
  rw [h]
  simp only [Result.andThen]
  rw [Oper.upon_value]
  go_wp2_with fail
  go_ret
  exact ⟨rfl, (Below.refl _ _).alloc (Nat.le_refl _) _⟩
end Go.Proofs.Qxb6615962aFmt
