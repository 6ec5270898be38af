import Derived.Test.Qxb6615962aFmtItL0
import Derived.Laws.CopyOwn
import Derived.Laws.MakeOwn
set_option linter.unusedSimpArgs false
namespace Go.Proofs.Qxb6615962aFmt
open Go.RowKit Go.Stop
theorem info30 : (Tryf.prog.info? 30).map (fun i => (i.zero, i.size, i.bytes)) = some (some (.agg #[.int .i64 0, .int .i64 0]), 2, 16) := by kernel_rfl
/-- copy of a slice of pairs over a whole row -/
theorem run_copy2 (w : World) (ty : TypeId) (g n c : Nat) (a : Addr) (cur : Array Value) (t : TypeId) (cs : List Value)
    (hg : w.heap[g]? = some (.cells cur t (0, 0))) (hn : cs.length = n * 2) (hsz : cur.size = n * 2) (hsrc : ∀ j v, cs[j]? = some v → w.cell? (a.add j) = some v) (h1 : ∀ v ∈ cs, v.oneCell' = true) :
    (Builtin.copy_ #[24, 24] ty #[.slice (some ⟨g, 0, none⟩) n n, .slice (some a) n c]).run Tryf.prog w = .ok (goInt n) (w.setRow g cs.toArray) := by
  obtain ⟨i0, hi, hz0, hz1, hz2⟩ := info_parts info30
  have hl := run_loadCells_list (P := Tryf.prog) w a cs hsrc
  have hst := run_storeCells_at Tryf.prog g 0 t cs 0 cur w hg (by simp; omega) h1
  rw [hn] at hl
  simp [Builtin.copy_, run_underlying Tryf.underlying24, Builtin.lenOf, Builtin.firstCells, sizeOf, typeInfo, hi, hz1, hl, hst]
  rw [List.drop_eq_nil_of_le (by simp; omega), List.append_nil]
/-- one part's text alone -/
def aln (r : List UInt8) : ByteArray := ⟨([116, 105, 109, 101] ++ 32 :: r ++ [59]).toArray⟩
theorem aln_size (r : List UInt8) : (aln r).size = r.length + 6 := by
  show ([116, 105, 109, 101] ++ 32 :: r ++ [59]).toArray.size = _
  simp
theorem aln_head (r : List UInt8) : (aln r).extract 0 5 = ⟨#[116, 105, 109, 101, 32]⟩ := by
  apply ByteArray.ext
  rw [ByteArray.data_extract]
  apply Array.ext'
  simp [aln]
theorem aln_mid (r : List UInt8) : (aln r).extract 4 (r.length + 5) = ⟨(32 :: r).toArray⟩ := by
  apply ByteArray.ext
  rw [ByteArray.data_extract]
  apply Array.ext'
  simp [aln]
theorem aln_last (r : List UInt8) (h : r.length + 5 < (aln r).size) : (aln r)[r.length + 5] = 59 := by
  simp [aln, ByteArray.getElem_eq_getElem_data]
end Go.Proofs.Qxb6615962aFmt
