import Derived.Test.Qxb6616015aFmtDataC
import Derived.LaidEqlPtr
import Derived.Laws.StructEq
import Derived.WideKeyRuns
namespace Go.Proofs.Qxb6616015aFmt
open Go.RowKit

theorem checkKey72 (em : Bool) (a b : ByteArray) (w : World) : (Instr.checkKey em 10000 72 (.agg #[.string a, .string b])).run Tryf.prog w = .ok () w := by
  kernel_rfl
theorem part0 (a b : ByteArray) (w : World) : (part 9 #[.string a, .string b] 0).run Tryf.prog w = .ok (.string a) w := by kernel_rfl
theorem part1 (a b : ByteArray) (w : World) : (part 9 #[.string a, .string b] 1).run Tryf.prog w = .ok (.string b) w := by kernel_rfl
theorem equal72 (a b c d : ByteArray) (w : World) : (Op.equal 72 (.agg #[.string a, .string b]) (.agg #[.string c, .string d])).run Tryf.prog w = .ok ((a.toList == c.toList) && (b.toList == d.toList)) w := by
  have h : (Op.equalIn (9999 + 1) 72 (.agg #[.string a, .string b]) (.agg #[.string c, .string d])).run Tryf.prog w = .ok ((a.toList == c.toList) && (b.toList == d.toList)) w := by
    rw [run_equalIn_struct w 9999 72 _ _ (by kernel_rfl) (by kernel_rfl)]
    simp only [Program.fieldsOf, Tryf.underlying72]
    have e1 := run_equalIn_string (P := Tryf.prog) w 9998 9 a c Tryf.underlying9
    have e2 := run_equalIn_string (P := Tryf.prog) w 9998 9 b d Tryf.underlying9
    cases h1 : (a.toList == c.toList)
    · rw [h1] at e1
      simp [Op.eqFields, part0, part1, e1]
    · rw [h1] at e1
      cases h2 : (b.toList == d.toList)
      · rw [h2] at e2
        simp [Op.eqFields, part0, part1, e1, e2]
      · rw [h2] at e2
        simp [Op.eqFields, part0, part1, e1, e2]
  exact h

/-- the map's entries: one a service, in the services' order -/
def ent (D : Nat) (sv : Nat → Svc) (i : Nat) : MapEntry := ⟨.agg #[.string (sv i).ns, .string (sv i).nm], .pointer (some ⟨D, i * 9, none⟩), i⟩
def ents (D : Nat) (sv : Nat → Svc) (k : Nat) : Array MapEntry := ((List.range k).map (ent D sv)).toArray
theorem ents_succ (D : Nat) (sv : Nat → Svc) (k : Nat) : ents D sv (k + 1) = (ents D sv k).push (ent D sv k) := by
  simp [ents, List.range_succ]
theorem asking (D : Nat) (sv : Nat → Svc) (ns nm : ByteArray) (W : World) : ∀ (m i t : Nat), (Instr.findAsking 72 (.agg #[.string ns, .string nm]) ((List.range' i m).map (ent D sv)) t).run Tryf.prog W = .ok ((fnd (fun j => isSv ns nm (sv j)) m i).map (fun j => (t + (j - i), Value.pointer (some ⟨D, j * 9, none⟩)))) W
  | 0, i, t => by simp [Instr.findAsking, fnd]
  | m + 1, i, t => by
    have ih := asking D sv ns nm W m (i + 1) (t + 1)
    have e := equal72 ns nm (sv i).ns (sv i).nm W
    have c : (ns.toList == (sv i).ns.toList && nm.toList == (sv i).nm.toList) = isSv ns nm (sv i) := by
      unfold isSv; rw [Bool.beq_comm (a := ns.toList), Bool.beq_comm (a := nm.toList)]
    rw [c] at e
    rw [List.range'_succ, List.map_cons]
    cases h : isSv ns nm (sv i)
    · rw [h] at e
      rw [fnd_miss (p := fun j => isSv ns nm (sv j)) h]
      have hs : (Instr.findAsking 72 (.agg #[.string ns, .string nm]) (ent D sv i :: (List.range' (i + 1) m).map (ent D sv)) t).run Tryf.prog W = (Instr.findAsking 72 (.agg #[.string ns, .string nm]) ((List.range' (i + 1) m).map (ent D sv)) (t + 1)).run Tryf.prog W := by
        rw [Instr.findAsking]
        simp only [ent, Sem.run_bind, e, Result.andThen_ok]
        simp
      rw [hs, ih]
      cases hf : fnd (fun j => isSv ns nm (sv j)) m (i + 1) with
      | none => rfl
      | some j =>
        have := (fnd_lt m (i + 1) j hf).1
        simp only [Option.map_some]
        rw [show t + 1 + (j - (i + 1)) = t + (j - i) by omega]
    · rw [h] at e
      rw [fnd_hit (p := fun j => isSv ns nm (sv j)) h]
      simp [Instr.findAsking, ent, e]

theorem finding (D : Nat) (sv : Nat → Svc) (ns nm : ByteArray) (W : World) (k : Nat) : (Instr.findKey 72 (.agg #[.string ns, .string nm]) (ents D sv k).toList).run Tryf.prog W = .ok ((fnd (fun j => isSv ns nm (sv j)) k 0).map (fun j => (j, Value.pointer (some ⟨D, j * 9, none⟩)))) W := by
  rw [run_findKey_eq W (by rw [Tryf.underlying72])]
  have := asking D sv ns nm W k 0 0
  simpa [ents, List.range_eq_range'] using this

/-- a world with another object at block M -/
def setM (W : World) (M : Nat) (o : Obj) : World := { W with heap := W.heap.setIfInBounds M o }
theorem update48 (D : Nat) (sv : Nat → Svc) (k M : Nat) (W : World) (hM : W.heap[M]? = some (.map (ents D sv k) k)) (hno : fnd (fun j => isSv (sv k).ns (sv k).nm (sv j)) k 0 = none) :
    (Instr.mapUpdate 48 (.map (some M)) (.agg #[.string (sv k).ns, .string (sv k).nm]) (.pointer (some ⟨D, k * 9, none⟩))).run Tryf.prog W = .ok () (setM W M (.map (ents D sv (k + 1)) (k + 1))) := by
  have hf := finding D sv (sv k).ns (sv k).nm W k
  rw [hno] at hf
  have hc := checkKey72 false (sv k).ns (sv k).nm W
  have hg := run_getObj_map (P := Tryf.prog) (w := W) M _ _ hM
  rw [ents_succ]
  simp only [Instr.mapUpdate, Sem.run_bind, run_underlying Tryf.underlying48, Result.andThen_ok, hg, hc, hf, Option.map_none]
  exact MapKept.run_setObj_map _ hM
theorem lookup48 (D : Nat) (sv : Nat → Svc) (k M : Nat) (ns nm : ByteArray) (W : World) (hM : W.heap[M]? = some (.map (ents D sv k) k)) :
    (Instr.lookup 48 (.map (some M)) (.agg #[.string ns, .string nm]) true).run Tryf.prog W =
      .ok (match fnd (fun j => isSv ns nm (sv j)) k 0 with | none => .tuple #[.pointer none, .bool false] | some j => .tuple #[.pointer (some ⟨D, j * 9, none⟩), .bool true]) W := by
  have hf := finding D sv ns nm W k
  have hc := fun em => checkKey72 em ns nm W
  have hg := run_getObj_map (P := Tryf.prog) (w := W) M _ _ hM
  have hz : (zeroValue 54).run Tryf.prog W = .ok (.pointer none) W := by kernel_rfl
  cases hh : fnd (fun j => isSv ns nm (sv j)) k 0 with
  | none =>
    rw [hh] at hf
    simp [Instr.lookup, run_underlying Tryf.underlying48, hg, hc, hf, hz]
  | some j =>
    rw [hh] at hf
    simp [Instr.lookup, run_underlying Tryf.underlying48, hg, hc, hf]
end Go.Proofs.Qxb6616015aFmt
