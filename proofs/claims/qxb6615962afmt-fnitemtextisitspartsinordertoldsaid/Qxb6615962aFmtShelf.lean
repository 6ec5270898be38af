/-
  DERIVED: THE SHELF's CONTRACTS AT THIS DUMP, IN PLAIN WORDS (tools/lay-plain.mjs out of 'TryfShelf.lean', which tools/lay-shelf.mjs wrote): THE SAME DECLARATIONS UNDER THE SAME NAMES: 'import', 'namespace', 'open', 'def', 'theorem' AND NOTHING ELSE: no command of the shelf's: FOR A HAND-IN. Each laying: the table of numbers ('.._ren') and one theorem, a field a fact of the dump's own or the kernel's comparison; each contract: ONE APPLICATION.
-/
import Derived.Shelf.Strings.Builder1
import Derived.Shelf.Strings.Builder2
import Derived.Shelf.Strings.OnBuilder
import Derived.Shelf.Strings.BuilderF
import Derived.Shelf.Strings.BuilderK
import Derived.Shelf.Strconv.Itoa0
import Derived.Shelf.Strconv.Itoa1
import Derived.Shelf.LaysM
import Derived.Shelf.Strconv.Itoa2
import Derived.Shelf.Strconv.Itoa3
import Derived.Test.Qxb6615962aFmtProg
namespace Go.Proofs
open Go.Shelf
def Tryf.lays169_ren : Go.Shelf.Ren := ⟨fun | 169 => 31 | n => n, fun | 70 => 56 | 9 => 9 | 0 => 0 | 72 => 58 | 37 => 36 | 127 => 83 | 3 => 3 | 5 => 5 | n => n, fun | n => n⟩
theorem Tryf.lays169 : Go.Proofs.Lays.n169 Tryf.prog Tryf.lays169_ren := {
  mixed := by kernel_rfl
  f169 := Tryf.func31.trans (congrArg some (by kernel_rfl))
  t0 := Tryf.underlying0
  a0 := Tryf.isAgg0
  z0 := Tryf.sizeOf0
  v0 := Tryf.zeroValue0
  t3 := Tryf.underlying3
  a3 := Tryf.isAgg3
  z3 := Tryf.sizeOf3
  v3 := Tryf.zeroValue3
  t9 := Tryf.underlying9
  a9 := Tryf.isAgg9
  z9 := Tryf.sizeOf9
  v9 := Tryf.zeroValue9
  t37 := Tryf.underlying36
  a37 := Tryf.isAgg36
  z37 := Tryf.sizeOf36
  v37 := Tryf.zeroValue36
  t70 := Tryf.underlying56
  a70 := Tryf.isAgg56
  z70 := Tryf.sizeOf56
  v70 := Tryf.zeroValue56
  t72 := Tryf.underlying58
  a72 := Tryf.isAgg58
  z72 := Tryf.sizeOf58
  v72 := Tryf.zeroValue58
  t127 := Tryf.underlying83
  a127 := Tryf.isAgg83
  z127 := Tryf.sizeOf83
  v127 := Tryf.zeroValue83 }
theorem Tryf.Builder_Extra_169 : Builder.Extra Tryf.prog Tryf.lays169_ren := {
  sizeBuilder := by kernel_rfl
  liesBuilder := by kernel_rfl
  t5 := Tryf.underlying5
  a5 := Tryf.isAgg5
  z5 := Tryf.sizeOf5
  v5 := Tryf.zeroValue5
  infoByte := by kernel_rfl
  cellsByte := by kernel_rfl
  sizeByte := by kernel_rfl
  neB5 := by decide }
open Go.RowKit in
/-- (*strings.Builder).String: "String returns the accumulated string.": OF A BUILDER THAT HOLDS AT LEAST ONE BYTE. ✋ THE MODEL FREEZES THOSE BYTES IN THE BUFFER (raw String): a later write INTO them ends the model's run without an answer; a later append BEHIND them goes on. The statement's order of evaluation is drawn: one draw. (LAID: no walk: one application.) -/
theorem Tryf.Builder_String (B b : Nat) (l : List UInt8) (w : World) (h : Lib.IsBuilder 58 5 B b (Lib.byteCells l) w) (h0 : l ≠ []) :
    Calls Tryf.prog 31 #[.pointer (some ⟨b, 0, none⟩)] w fun e w' => e = .returned (.string ⟨l.toArray⟩) ∧ Below B w w' := Any.Builder_String Tryf.lays169 Tryf.Builder_Extra_169 B b l w h h0
open Go.RowKit in
/-- (*strings.Builder).String OF A BUILDER THAT HOLDS NO BYTE: the empty string. (Its buffer is nil, or a row of which it has taken nothing yet; where that row has NO capacity the model lays one new block for raw SliceData's 'some address'.) One draw. (LAID: no walk: one application.) -/
theorem Tryf.Builder_String_empty (B b : Nat) (w : World) (h : Lib.IsBuilder 58 5 B b [] w) (hBw : B ≤ w.heap.size) :
    Calls Tryf.prog 31 #[.pointer (some ⟨b, 0, none⟩)] w fun e w' => e = .returned (.string ⟨#[]⟩) ∧ Below B w w' := Any.Builder_String_empty Tryf.lays169 Tryf.Builder_Extra_169 B b w h hBw
open Go.RowKit in
/-- (*strings.Builder).String: "String returns the accumulated string.": WHATEVER THE BUILDER HOLDS. (LAID: no walk: one application.) -/
theorem Tryf.Builder_String_any (B b : Nat) (l : List UInt8) (w : World) (h : Lib.IsBuilder 58 5 B b (Lib.byteCells l) w) (hBw : B ≤ w.heap.size) :
    Calls Tryf.prog 31 #[.pointer (some ⟨b, 0, none⟩)] w fun e w' => e = .returned (.string ⟨l.toArray⟩) ∧ Below B w w' := Any.Builder_String_any Tryf.lays169 Tryf.Builder_Extra_169 B b l w h hBw
def Tryf.lays241_ren : Go.Shelf.Ren := ⟨fun | 241 => 51 | 277 => 56 | n => n, fun | 70 => 56 | 3 => 3 | 0 => 0 | 72 => 58 | 37 => 36 | 5 => 5 | n => n, fun | n => n⟩
theorem Tryf.lays241 : Go.Proofs.Lays.n241 Tryf.prog Tryf.lays241_ren := {
  mixed := by kernel_rfl
  f241 := Tryf.func51.trans (congrArg some (by kernel_rfl))
  f277 := Tryf.func56.trans (congrArg some (by kernel_rfl))
  t0 := Tryf.underlying0
  a0 := Tryf.isAgg0
  z0 := Tryf.sizeOf0
  v0 := Tryf.zeroValue0
  t3 := Tryf.underlying3
  a3 := Tryf.isAgg3
  z3 := Tryf.sizeOf3
  v3 := Tryf.zeroValue3
  t37 := Tryf.underlying36
  a37 := Tryf.isAgg36
  z37 := Tryf.sizeOf36
  v37 := Tryf.zeroValue36
  t70 := Tryf.underlying56
  a70 := Tryf.isAgg56
  z70 := Tryf.sizeOf56
  v70 := Tryf.zeroValue56
  t72 := Tryf.underlying58
  a72 := Tryf.isAgg58
  z72 := Tryf.sizeOf58
  v72 := Tryf.zeroValue58 }
theorem Tryf.Builder_Extra_241 : Builder.Extra Tryf.prog Tryf.lays241_ren := {
  sizeBuilder := by kernel_rfl
  liesBuilder := by kernel_rfl
  t5 := Tryf.underlying5
  a5 := Tryf.isAgg5
  z5 := Tryf.sizeOf5
  v5 := Tryf.zeroValue5
  infoByte := by kernel_rfl
  cellsByte := by kernel_rfl
  sizeByte := by kernel_rfl
  neB5 := by decide }
open Go.RowKit in
/-- (*strings.Builder).grow (no doc but "grow copies the buffer to a new, larger buffer so that there are at least n bytes of capacity beyond len(b.buf)."): AT A BUILDER WITHOUT A BUFFER: a new row of whatever bytes for its buffer, none of them its own yet. Three draws. (LAID: no walk: one application.) -/
theorem Tryf.Builder_grow_fresh (B b n : Nat) (w : World) (hB : B ≤ b) (hbk : w.heap[b]? = some (.cells #[.pointer (some ⟨b, 0, none⟩), .slice none 0 0] 58 (0, 0))) (hBw : B ≤ w.heap.size) (hn : n ≤ 281474976710656) :
    Calls Tryf.prog 51 #[.pointer (some ⟨b, 0, none⟩), .int .i64 n] w fun e w' => e = .returned (.tuple #[]) ∧ (Lib.BuilderAt 58 5 B b (.pointer (some ⟨b, 0, none⟩)) [] w' ∧ Below B w w') := Any.Builder_grow_fresh Tryf.lays241 Tryf.Builder_Extra_241 B b n w hB hbk hBw hn
def Tryf.lays165_ren : Go.Shelf.Ren := ⟨fun | 165 => 46 | 240 => 34 | 241 => 51 | 276 => 45 | 277 => 56 | n => n, fun | 70 => 56 | 3 => 3 | 0 => 0 | 4 => 4 | 9 => 9 | 20 => 20 | 72 => 58 | 37 => 36 | 164 => 84 | 5 => 5 | n => n, fun | n => n⟩
theorem Tryf.lays165 : Go.Proofs.Lays.n165 Tryf.prog Tryf.lays165_ren := {
  mixed := by kernel_rfl
  f165 := Tryf.func46.trans (congrArg some (by kernel_rfl))
  f240 := Tryf.func34.trans (congrArg some (by kernel_rfl))
  f241 := Tryf.func51.trans (congrArg some (by kernel_rfl))
  f276 := Tryf.func45.trans (congrArg some (by kernel_rfl))
  f277 := Tryf.func56.trans (congrArg some (by kernel_rfl))
  t0 := Tryf.underlying0
  a0 := Tryf.isAgg0
  z0 := Tryf.sizeOf0
  v0 := Tryf.zeroValue0
  t3 := Tryf.underlying3
  a3 := Tryf.isAgg3
  z3 := Tryf.sizeOf3
  v3 := Tryf.zeroValue3
  t4 := Tryf.underlying4
  a4 := Tryf.isAgg4
  z4 := Tryf.sizeOf4
  v4 := Tryf.zeroValue4
  t9 := Tryf.underlying9
  a9 := Tryf.isAgg9
  z9 := Tryf.sizeOf9
  v9 := Tryf.zeroValue9
  t20 := Tryf.underlying20
  a20 := Tryf.isAgg20
  z20 := Tryf.sizeOf20
  v20 := Tryf.zeroValue20
  t37 := Tryf.underlying36
  a37 := Tryf.isAgg36
  z37 := Tryf.sizeOf36
  v37 := Tryf.zeroValue36
  t70 := Tryf.underlying56
  a70 := Tryf.isAgg56
  z70 := Tryf.sizeOf56
  v70 := Tryf.zeroValue56
  t72 := Tryf.underlying58
  a72 := Tryf.isAgg58
  z72 := Tryf.sizeOf58
  v72 := Tryf.zeroValue58
  t164 := Tryf.underlying84
  a164 := Tryf.isAgg84
  z164 := Tryf.sizeOf84
  v164 := Tryf.zeroValue84 }
theorem Tryf.Builder_Extra_165 : Builder.Extra Tryf.prog Tryf.lays165_ren := {
  sizeBuilder := by kernel_rfl
  liesBuilder := by kernel_rfl
  t5 := Tryf.underlying5
  a5 := Tryf.isAgg5
  z5 := Tryf.sizeOf5
  v5 := Tryf.zeroValue5
  infoByte := by kernel_rfl
  cellsByte := by kernel_rfl
  sizeByte := by kernel_rfl
  neB5 := by decide }
open Go.RowKit in
/-- (*strings.Builder).Grow AT A BUILDER THAT HAS NOT BEEN WRITTEN ('var b strings.Builder; b.Grow(n)'): "Grow grows b's capacity, if necessary, to guarantee space for another n bytes.": it holds no byte behind it as before it. (LAID: no walk: one application.) -/
theorem Tryf.Builder_Grow_fresh (B b n : Nat) (w : World) (hB : B ≤ b) (hbk : w.heap[b]? = some (.cells #[.pointer none, .slice none 0 0] 58 (0, 0))) (hBw : B ≤ w.heap.size) (hn : n ≤ 281474976710656) :
    Calls Tryf.prog 46 #[.pointer (some ⟨b, 0, none⟩), .int .i64 n] w fun e w' => e = .returned (.tuple #[]) ∧ (Lib.BuilderAt 58 5 B b (.pointer (some ⟨b, 0, none⟩)) [] w' ∧ Below B w w') := Any.Builder_Grow_fresh Tryf.lays165 Tryf.Builder_Extra_165 B b n w hB hbk hBw hn
def Tryf.lays156_ren : Go.Shelf.Ren := ⟨fun | 156 => 36 | 165 => 46 | 166 => 20 | 169 => 31 | 240 => 34 | 241 => 51 | 276 => 45 | 277 => 56 | n => n, fun | 31 => 65 | 9 => 9 | 3 => 3 | 4 => 4 | 0 => 0 | 20 => 20 | 72 => 58 | 76 => 61 | 70 => 56 | 37 => 36 | 75 => 60 | 127 => 83 | 164 => 84 | 5 => 5 | 80 => 70 | n => n, fun | n => n⟩
theorem Tryf.lays156 : Go.Proofs.Lays.n156 Tryf.prog Tryf.lays156_ren := {
  mixed := by kernel_rfl
  f156 := Tryf.func36.trans (congrArg some (by kernel_rfl))
  f165 := Tryf.func46.trans (congrArg some (by kernel_rfl))
  f166 := Tryf.func20.trans (congrArg some (by kernel_rfl))
  f169 := Tryf.func31.trans (congrArg some (by kernel_rfl))
  f240 := Tryf.func34.trans (congrArg some (by kernel_rfl))
  f241 := Tryf.func51.trans (congrArg some (by kernel_rfl))
  f276 := Tryf.func45.trans (congrArg some (by kernel_rfl))
  f277 := Tryf.func56.trans (congrArg some (by kernel_rfl))
  t0 := Tryf.underlying0
  a0 := Tryf.isAgg0
  z0 := Tryf.sizeOf0
  v0 := Tryf.zeroValue0
  t3 := Tryf.underlying3
  a3 := Tryf.isAgg3
  z3 := Tryf.sizeOf3
  v3 := Tryf.zeroValue3
  t4 := Tryf.underlying4
  a4 := Tryf.isAgg4
  z4 := Tryf.sizeOf4
  v4 := Tryf.zeroValue4
  t9 := Tryf.underlying9
  a9 := Tryf.isAgg9
  z9 := Tryf.sizeOf9
  v9 := Tryf.zeroValue9
  t20 := Tryf.underlying20
  a20 := Tryf.isAgg20
  z20 := Tryf.sizeOf20
  v20 := Tryf.zeroValue20
  t31 := Tryf.underlying65
  a31 := Tryf.isAgg65
  z31 := Tryf.sizeOf65
  v31 := Tryf.zeroValue65
  t37 := Tryf.underlying36
  a37 := Tryf.isAgg36
  z37 := Tryf.sizeOf36
  v37 := Tryf.zeroValue36
  t70 := Tryf.underlying56
  a70 := Tryf.isAgg56
  z70 := Tryf.sizeOf56
  v70 := Tryf.zeroValue56
  t72 := Tryf.underlying58
  a72 := Tryf.isAgg58
  z72 := Tryf.sizeOf58
  v72 := Tryf.zeroValue58
  t75 := Tryf.underlying60
  a75 := Tryf.isAgg60
  z75 := Tryf.sizeOf60
  v75 := Tryf.zeroValue60
  t76 := Tryf.underlying61
  a76 := Tryf.isAgg61
  z76 := Tryf.sizeOf61
  v76 := Tryf.zeroValue61
  t127 := Tryf.underlying83
  a127 := Tryf.isAgg83
  z127 := Tryf.sizeOf83
  v127 := Tryf.zeroValue83
  t164 := Tryf.underlying84
  a164 := Tryf.isAgg84
  z164 := Tryf.sizeOf84
  v164 := Tryf.zeroValue84 }
theorem Tryf.Builder_Extra_156 : Builder.Extra Tryf.prog Tryf.lays156_ren := {
  sizeBuilder := by kernel_rfl
  liesBuilder := by kernel_rfl
  t5 := Tryf.underlying5
  a5 := Tryf.isAgg5
  z5 := Tryf.sizeOf5
  v5 := Tryf.zeroValue5
  infoByte := by kernel_rfl
  cellsByte := by kernel_rfl
  sizeByte := by kernel_rfl
  neB5 := by decide }
open Go.RowKit in
/-- No element: the empty string; the world is as it was. (Whatever the slice's address and capacity: a nil slice too.) (LAID: no walk: one application.) -/
theorem Tryf.strings_Join_none (a : Option Addr) (c : Nat) (sep : ByteArray) (w : World) :
    Calls Tryf.prog 36 #[.slice a 0 c, .string sep] w fun e w' => e = .returned (.string ⟨#[]⟩) ∧ w' = w := Any.strings_Join_none Tryf.lays156 Tryf.Builder_Extra_156 a c sep w
open Go.RowKit in
/-- strings.Join: "Join concatenates the elements of its first argument to create a single string. The separator string sep is placed between elements in the resulting string.": HOWEVER MANY ELEMENTS. Below the heap's end the world is as it was. (LAID: no walk: one application.) -/
theorem Tryf.strings_Join (bk o c : Nat) (xs : List ByteArray) (sep : ByteArray) (w : World) (hcells : ∀ (j : Nat) x, xs[j]? = some x → w.cell? ⟨bk, o + j, none⟩ = some (.string x)) (hbk : bk < w.heap.size) (hN : xs.length ≤ 140737488355328) (hcap : xs.length ≤ c) (hlen : (Lib.join (xs.map (·.data.toList)) sep.data.toList).length ≤ 140737488355328) :
    Calls Tryf.prog 36 #[.slice (some ⟨bk, o, none⟩) xs.length c, .string sep] w fun e w' => e = .returned (.string ⟨(Lib.join (xs.map (·.data.toList)) sep.data.toList).toArray⟩) ∧ Below w.heap.size w w' := Any.strings_Join Tryf.lays156 Tryf.Builder_Extra_156 bk o c xs sep w hcells hbk hN hcap hlen
open Go.RowKit in
/-- (*strings.Builder).String: "String returns the accumulated string.": OF A BUILDER THAT HOLDS AT LEAST ONE BYTE. ✋ THE MODEL FREEZES THOSE BYTES IN THE BUFFER (raw String): a later write INTO them ends the model's run without an answer; a later append BEHIND them goes on. The statement's order of evaluation is drawn: one draw. THE FORM '_f': IT SAYS BESIDES THAT THE BUILDER IS A BUILDER STILL ('Lib.IsBuilderF', the same bytes): SO IT CAN BE WRITTEN ON: 'b.WriteString(b.String()[:k])'. (LAID: no walk: one application.) -/
theorem Tryf.Builder_String_f (B b : Nat) (l : List UInt8) (w : World) (h : Lib.IsBuilderF 58 5 B b (Lib.byteCells l) w) (h0 : l ≠ []) :
    Calls Tryf.prog 31 #[.pointer (some ⟨b, 0, none⟩)] w fun e w' => e = .returned (.string ⟨l.toArray⟩) ∧ (Lib.IsBuilderF 58 5 B b (Lib.byteCells l) w' ∧ Below B w w') := Any.Builder_String_f Tryf.lays169 Tryf.Builder_Extra_169 B b l w h h0
open Go.RowKit in
/-- (*strings.Builder).String OF A BUILDER THAT HOLDS NO BYTE: the empty string; THE FORM '_f': a builder still. (LAID: no walk: one application.) -/
theorem Tryf.Builder_String_empty_f (B b : Nat) (w : World) (h : Lib.IsBuilderF 58 5 B b [] w) (hBw : B ≤ w.heap.size) :
    Calls Tryf.prog 31 #[.pointer (some ⟨b, 0, none⟩)] w fun e w' => e = .returned (.string ⟨#[]⟩) ∧ (Lib.IsBuilderF 58 5 B b [] w' ∧ Below B w w') := Any.Builder_String_empty_f Tryf.lays169 Tryf.Builder_Extra_169 B b w h hBw
open Go.RowKit in
/-- (*strings.Builder).String: "String returns the accumulated string.": WHATEVER THE BUILDER HOLDS; THE FORM '_f': OF A BUILDER THAT MAY HAVE BEEN READ BEFORE; AND IT IS A BUILDER STILL, holding the same bytes: it can be written on. (LAID: no walk: one application.) -/
theorem Tryf.Builder_String_any_f (B b : Nat) (l : List UInt8) (w : World) (h : Lib.IsBuilderF 58 5 B b (Lib.byteCells l) w) (hBw : B ≤ w.heap.size) :
    Calls Tryf.prog 31 #[.pointer (some ⟨b, 0, none⟩)] w fun e w' => e = .returned (.string ⟨l.toArray⟩) ∧ (Lib.IsBuilderF 58 5 B b (Lib.byteCells l) w' ∧ Below B w w') := Any.Builder_String_any_f Tryf.lays169 Tryf.Builder_Extra_169 B b l w h hBw
open Go.RowKit in
/-- (*strings.Builder).String: "String returns the accumulated string.": OF A BUILDER THAT HOLDS AT LEAST ONE BYTE. ✋ THE MODEL FREEZES THOSE BYTES IN THE BUFFER (raw String): a later write INTO them ends the model's run without an answer; a later append BEHIND them goes on. The statement's order of evaluation is drawn: one draw. THE FORM '_k': OVER 'Lib.IsBuilderF' (a builder that 'String()' may have read), AND WITH THE FRAME THAT REACHES ABOVE THE BUILDER: 'Lib.OthersKept': every block that is not b and is no row of uint8's stands as it stood: the iterator of a range among them. (LAID: no walk: one application.) -/
theorem Tryf.Builder_String_k (B b : Nat) (l : List UInt8) (w : World) (h : Lib.IsBuilderF 58 5 B b (Lib.byteCells l) w) (h0 : l ≠ []) :
    Calls Tryf.prog 31 #[.pointer (some ⟨b, 0, none⟩)] w fun e w' => e = .returned (.string ⟨l.toArray⟩) ∧ (Lib.IsBuilderF 58 5 B b (Lib.byteCells l) w' ∧ Below B w w' ∧ Lib.OthersKept 5 (some b) w w') := Any.Builder_String_k Tryf.lays169 Tryf.Builder_Extra_169 B b l w h h0
open Go.RowKit in
/-- (*strings.Builder).String OF A BUILDER THAT HOLDS NO BYTE: the empty string; THE FORM '_k': OVER 'Lib.IsBuilderF' (a builder that 'String()' may have read), AND WITH THE FRAME THAT REACHES ABOVE THE BUILDER: 'Lib.OthersKept': every block that is not b and is no row of uint8's stands as it stood: the iterator of a range among them. (LAID: no walk: one application.) -/
theorem Tryf.Builder_String_empty_k (B b : Nat) (w : World) (h : Lib.IsBuilderF 58 5 B b [] w) (hBw : B ≤ w.heap.size) :
    Calls Tryf.prog 31 #[.pointer (some ⟨b, 0, none⟩)] w fun e w' => e = .returned (.string ⟨#[]⟩) ∧ (Lib.IsBuilderF 58 5 B b [] w' ∧ Below B w w' ∧ Lib.OthersKept 5 (some b) w w') := Any.Builder_String_empty_k Tryf.lays169 Tryf.Builder_Extra_169 B b w h hBw
open Go.RowKit in
/-- (*strings.Builder).String: "String returns the accumulated string.": WHATEVER THE BUILDER HOLDS; THE FORM '_k': OVER 'Lib.IsBuilderF' (a builder that 'String()' may have read), AND WITH THE FRAME THAT REACHES ABOVE THE BUILDER: 'Lib.OthersKept': every block that is not b and is no row of uint8's stands as it stood: the iterator of a range among them. (LAID: no walk: one application.) -/
theorem Tryf.Builder_String_any_k (B b : Nat) (l : List UInt8) (w : World) (h : Lib.IsBuilderF 58 5 B b (Lib.byteCells l) w) (hBw : B ≤ w.heap.size) :
    Calls Tryf.prog 31 #[.pointer (some ⟨b, 0, none⟩)] w fun e w' => e = .returned (.string ⟨l.toArray⟩) ∧ (Lib.IsBuilderF 58 5 B b (Lib.byteCells l) w' ∧ Below B w w' ∧ Lib.OthersKept 5 (some b) w w') := Any.Builder_String_any_k Tryf.lays169 Tryf.Builder_Extra_169 B b l w h hBw
def Tryf.lays129_ren : Go.Shelf.Ren := ⟨fun | 129 => 58 | n => n, fun | 53 => 22 | 3 => 3 | 4 => 4 | 46 => 28 | 5 => 5 | 9 => 9 | n => n, fun | n => n⟩
theorem Tryf.lays129 : Go.Proofs.Lays.n129 Tryf.prog Tryf.lays129_ren := {
  mixed := by kernel_rfl
  f129 := Tryf.func58.trans (congrArg some (by kernel_rfl))
  t3 := Tryf.underlying3
  a3 := Tryf.isAgg3
  z3 := Tryf.sizeOf3
  v3 := Tryf.zeroValue3
  t4 := Tryf.underlying4
  a4 := Tryf.isAgg4
  z4 := Tryf.sizeOf4
  v4 := Tryf.zeroValue4
  t5 := Tryf.underlying5
  a5 := Tryf.isAgg5
  z5 := Tryf.sizeOf5
  v5 := Tryf.zeroValue5
  t9 := Tryf.underlying9
  a9 := Tryf.isAgg9
  z9 := Tryf.sizeOf9
  v9 := Tryf.zeroValue9
  t46 := Tryf.underlying28
  a46 := Tryf.isAgg28
  z46 := Tryf.sizeOf28
  v46 := Tryf.zeroValue28
  t53 := Tryf.underlying22
  a53 := Tryf.isAgg22
  z53 := Tryf.sizeOf22
  v53 := Tryf.zeroValue22 }
/-- bits.Len64: "Len64 returns the minimum number of bits required to represent x; the result is 0 for x == 0.": IT RETURNS 'Lib.bitLen x'; the world is as it was. ('h0', 'h1': x is a uint64.) (LAID: no walk: one application.) -/
theorem Tryf.bits_Len64 (x : Int) (w : World) (h0 : 0 ≤ x) (h1 : x ≤ 18446744073709551615) :
    Calls Tryf.prog 58 #[.int .u64 x] w fun e w' => e = .returned (.int .i64 (Lib.bitLen x.toNat)) ∧ w' = w := Any.bits_Len64 Tryf.lays129 x w h0 h1
def Tryf.lays317_ren : Go.Shelf.Ren := ⟨fun | 317 => 57 | n => n, fun | 3 => 3 | 46 => 28 | n => n, fun | n => n⟩
theorem Tryf.lays317 : Go.Proofs.Lays.n317 Tryf.prog Tryf.lays317_ren := {
  mixed := by kernel_rfl
  f317 := Tryf.func57.trans (congrArg some (by kernel_rfl))
  t3 := Tryf.underlying3
  a3 := Tryf.isAgg3
  z3 := Tryf.sizeOf3
  v3 := Tryf.zeroValue3
  t46 := Tryf.underlying28
  a46 := Tryf.isAgg28
  z46 := Tryf.sizeOf28
  v46 := Tryf.zeroValue28 }
open Go.Lib in
/-- internal/strconv.log10Pow2: "log10Pow2(x) returns ⌊log₁₀ 2**x⌋ = ⌊x * log₁₀ 2⌋.": '(x * 78913) >> 18', at an x up to 64 (a length in bits). The world is as it was. (LAID: no walk: one application.) -/
theorem Tryf.internal_strconv_log10Pow2 (x : Nat) (h : x ≤ 64) (w : World) :
    Calls Tryf.prog 57 #[.int .i64 x] w fun e w' => e = .returned (.int .i64 (Lib.l10 x)) ∧ w' = w := Any.internal_strconv_log10Pow2 Tryf.lays317 x h w
def Tryf.lays318_ren : Go.Shelf.Ren := ⟨fun | 318 => 59 | n => n, fun | 3 => 3 | 4 => 4 | n => n, fun | n => n⟩
theorem Tryf.lays318 : Go.Proofs.Lays.n318 Tryf.prog Tryf.lays318_ren := {
  mixed := by kernel_rfl
  f318 := Tryf.func59.trans (congrArg some (by kernel_rfl))
  t3 := Tryf.underlying3
  a3 := Tryf.isAgg3
  z3 := Tryf.sizeOf3
  v3 := Tryf.zeroValue3
  t4 := Tryf.underlying4
  a4 := Tryf.isAgg4
  z4 := Tryf.sizeOf4
  v4 := Tryf.zeroValue4 }
open Go.Lib in
/-- internal/strconv.bool2: "bool2 converts b to an integer: 1 for true, 0 for false." The world is as it was. (LAID: no walk: one application.) -/
theorem Tryf.internal_strconv_bool2_int (b : Bool) (w : World) :
    Calls Tryf.prog 59 #[.bool b] w fun e w' => e = .returned (.int .i64 (if b then 1 else 0)) ∧ w' = w := Any.internal_strconv_bool2_int Tryf.lays318 b w
def Tryf.lays283_ren : Go.Shelf.Ren := ⟨fun | 283 => 52 | n => n, fun | 3 => 3 | 9 => 9 | 4 => 4 | n => n, fun | n => n⟩
theorem Tryf.lays283 : Go.Proofs.Lays.n283 Tryf.prog Tryf.lays283_ren := {
  mixed := by kernel_rfl
  f283 := Tryf.func52.trans (congrArg some (by kernel_rfl))
  t3 := Tryf.underlying3
  a3 := Tryf.isAgg3
  z3 := Tryf.sizeOf3
  v3 := Tryf.zeroValue3
  t4 := Tryf.underlying4
  a4 := Tryf.isAgg4
  z4 := Tryf.sizeOf4
  v4 := Tryf.zeroValue4
  t9 := Tryf.underlying9
  a9 := Tryf.isAgg9
  z9 := Tryf.sizeOf9
  v9 := Tryf.zeroValue9 }
open Go.Lib in
/-- internal/strconv.small: "small returns the string for an i with 0 <= i < nSmalls.": i's decimal numeral. The world is as it was. (LAID: no walk: one application.) -/
theorem Tryf.internal_strconv_small (i : Nat) (h : i < 100) (w : World) :
    Calls Tryf.prog 52 #[.int .i64 i] w fun e w' => e = .returned (.string ⟨(Lib.decDigits i).toArray⟩) ∧ w' = w := Any.internal_strconv_small Tryf.lays283 i h w
def Tryf.laysM284_ren : Go.Shelf.Ren := ⟨fun | 284 => 53 | 129 => 58 | 317 => 57 | 318 => 59 | n => n, fun | 53 => 22 | 3 => 3 | 212 => 96 | 0 => 0 | 4 => 4 | 46 => 28 | 5 => 5 | 9 => 9 | n => n, fun | 17 => 2 | n => n⟩
theorem Tryf.laysM284 : Go.Proofs.LaysM.n284 Tryf.prog Tryf.laysM284_ren := {
  mixed := by kernel_rfl
  f129 := Tryf.func58.trans (congrArg some (by kernel_rfl))
  f284 := Tryf.func53.trans (congrArg some (by kernel_rfl))
  f317 := Tryf.func57.trans (congrArg some (by kernel_rfl))
  f318 := Tryf.func59.trans (congrArg some (by kernel_rfl))
  t0 := Tryf.underlying0
  a0 := Tryf.isAgg0
  z0 := Tryf.sizeOf0
  v0 := Tryf.zeroValue0
  t3 := Tryf.underlying3
  a3 := Tryf.isAgg3
  z3 := Tryf.sizeOf3
  v3 := Tryf.zeroValue3
  t4 := Tryf.underlying4
  a4 := Tryf.isAgg4
  z4 := Tryf.sizeOf4
  v4 := Tryf.zeroValue4
  t5 := Tryf.underlying5
  a5 := Tryf.isAgg5
  z5 := Tryf.sizeOf5
  v5 := Tryf.zeroValue5
  t9 := Tryf.underlying9
  a9 := Tryf.isAgg9
  z9 := Tryf.sizeOf9
  v9 := Tryf.zeroValue9
  t46 := Tryf.underlying28
  a46 := Tryf.isAgg28
  z46 := Tryf.sizeOf28
  v46 := Tryf.zeroValue28
  t53 := Tryf.underlying22
  a53 := Tryf.isAgg22
  z53 := Tryf.sizeOf22
  v53 := Tryf.zeroValue22
  t212 := Tryf.underlying96
  a212 := Tryf.isAgg96
  z212 := Tryf.sizeOf96
  v212 := Tryf.zeroValue96
  g17 := by kernel_rfl
  i0 := by kernel_rfl
  i3 := by kernel_rfl
  i4 := by kernel_rfl
  i5 := by kernel_rfl
  i9 := by kernel_rfl
  i46 := by kernel_rfl
  i53 := by kernel_rfl
  i212 := by kernel_rfl
  m17 := by kernel_rfl }
open Go.Lib in
/-- internal/strconv.numDigits, at a d that is not 0: THE NUMBER OF d's DECIMAL DIGITS. The world is as it was. (LAID: no walk: one application.) -/
theorem Tryf.internal_strconv_numDigits (u : Nat) (h1 : 1 ≤ u) (h2 : u < 18446744073709551616) (w : World) (htab : Lib.TabIs Tryf.prog w "internal/strconv.uint64pow10" .u64 Lib.pow10Tab) :
    Calls Tryf.prog 53 #[.int .u64 u] w fun e w' => e = .returned (.int .i64 (Lib.nDigits u)) ∧ w' = w := Any.internal_strconv_numDigits Tryf.laysM284 u h1 h2 w htab
def Tryf.lays285_ren : Go.Shelf.Ren := ⟨fun | 285 => 54 | n => n, fun | 37 => 36 | 53 => 22 | 3 => 3 | 4 => 4 | 51 => 97 | 9 => 9 | 5 => 5 | 0 => 0 | n => n, fun | n => n⟩
theorem Tryf.lays285 : Go.Proofs.Lays.n285 Tryf.prog Tryf.lays285_ren := {
  mixed := by kernel_rfl
  f285 := Tryf.func54.trans (congrArg some (by kernel_rfl))
  t0 := Tryf.underlying0
  a0 := Tryf.isAgg0
  z0 := Tryf.sizeOf0
  v0 := Tryf.zeroValue0
  t3 := Tryf.underlying3
  a3 := Tryf.isAgg3
  z3 := Tryf.sizeOf3
  v3 := Tryf.zeroValue3
  t4 := Tryf.underlying4
  a4 := Tryf.isAgg4
  z4 := Tryf.sizeOf4
  v4 := Tryf.zeroValue4
  t5 := Tryf.underlying5
  a5 := Tryf.isAgg5
  z5 := Tryf.sizeOf5
  v5 := Tryf.zeroValue5
  t9 := Tryf.underlying9
  a9 := Tryf.isAgg9
  z9 := Tryf.sizeOf9
  v9 := Tryf.zeroValue9
  t37 := Tryf.underlying36
  a37 := Tryf.isAgg36
  z37 := Tryf.sizeOf36
  v37 := Tryf.zeroValue36
  t51 := Tryf.underlying97
  a51 := Tryf.isAgg97
  z51 := Tryf.sizeOf97
  v51 := Tryf.zeroValue97
  t53 := Tryf.underlying22
  a53 := Tryf.isAgg22
  z53 := Tryf.sizeOf22
  v53 := Tryf.zeroValue22 }
open Go.RowKit Go.Sort Go.Lib in
/-- internal/strconv.formatBase10: "formatBase10 formats the decimal representation of u into a. The caller is responsible for ensuring that a is big enough to hold u. If a is too big, leading zeros will be filled in as needed.": THE ROW HOLDS u's DIGITS ('FmtInv .. 0 ..': every place t holds 'dg u (len - 1 - t)'); all else is as it was but for the count of draws. (LAID: no walk: one application.) -/
theorem Tryf.internal_strconv_formatBase10 (blk off cap : Nat) (u : Nat) (d : Array UInt8) (w : World) (hH : Holds (fun (b : UInt8) => Value.int .u8 (b.toNat : Int)) w blk off d) (hu : u < 10 ^ d.size) (hu64 : u < 18446744073709551616) (hsz : d.size < 4611686018427387904) :
    Calls Tryf.prog 54 #[.slice (some ⟨blk, off, none⟩) d.size cap, .int .u64 u] w fun e w' =>
      e = .returned (.tuple #[]) ∧ ∃ (n v' : Nat) (dk : Array UInt8), w' = (putRow (fun (b : UInt8) => Value.int .u8 (b.toNat : Int)) w blk off dk).drewN n ∧ FmtInv d.size u 0 v' dk := Any.internal_strconv_formatBase10 Tryf.lays285 blk off cap u d w hH hu hu64 hsz
def Tryf.laysM246_ren : Go.Shelf.Ren := ⟨fun | 246 => 47 | 283 => 52 | 284 => 53 | 285 => 54 | 286 => 55 | 129 => 58 | 317 => 57 | 318 => 59 | 319 => 60 | 320 => 61 | 337 => 62 | 338 => 37 | n => n, fun | 2 => 2 | 3 => 3 | 9 => 9 | 4 => 4 | 171 => 90 | 0 => 0 | 53 => 22 | 37 => 36 | 5 => 5 | 173 => 92 | 212 => 96 | 51 => 97 | 20 => 20 | 213 => 98 | 46 => 28 | 232 => 101 | 233 => 87 | n => n, fun | 17 => 2 | 18 => 4 | 19 => 0 | n => n⟩
theorem Tryf.laysM246 : Go.Proofs.LaysM.n246 Tryf.prog Tryf.laysM246_ren := {
  mixed := by kernel_rfl
  f129 := Tryf.func58.trans (congrArg some (by kernel_rfl))
  f246 := Tryf.func47.trans (congrArg some (by kernel_rfl))
  f283 := Tryf.func52.trans (congrArg some (by kernel_rfl))
  f284 := Tryf.func53.trans (congrArg some (by kernel_rfl))
  f285 := Tryf.func54.trans (congrArg some (by kernel_rfl))
  f286 := Tryf.func55.trans (congrArg some (by kernel_rfl))
  f317 := Tryf.func57.trans (congrArg some (by kernel_rfl))
  f318 := Tryf.func59.trans (congrArg some (by kernel_rfl))
  f319 := Tryf.func60.trans (congrArg some (by kernel_rfl))
  f320 := Tryf.func61.trans (congrArg some (by kernel_rfl))
  f337 := Tryf.func62.trans (congrArg some (by kernel_rfl))
  f338 := Tryf.func37.trans (congrArg some (by kernel_rfl))
  t0 := Tryf.underlying0
  a0 := Tryf.isAgg0
  z0 := Tryf.sizeOf0
  v0 := Tryf.zeroValue0
  t2 := Tryf.underlying2
  a2 := Tryf.isAgg2
  z2 := Tryf.sizeOf2
  v2 := Tryf.zeroValue2
  t3 := Tryf.underlying3
  a3 := Tryf.isAgg3
  z3 := Tryf.sizeOf3
  v3 := Tryf.zeroValue3
  t4 := Tryf.underlying4
  a4 := Tryf.isAgg4
  z4 := Tryf.sizeOf4
  v4 := Tryf.zeroValue4
  t5 := Tryf.underlying5
  a5 := Tryf.isAgg5
  z5 := Tryf.sizeOf5
  v5 := Tryf.zeroValue5
  t9 := Tryf.underlying9
  a9 := Tryf.isAgg9
  z9 := Tryf.sizeOf9
  v9 := Tryf.zeroValue9
  t20 := Tryf.underlying20
  a20 := Tryf.isAgg20
  z20 := Tryf.sizeOf20
  v20 := Tryf.zeroValue20
  t37 := Tryf.underlying36
  a37 := Tryf.isAgg36
  z37 := Tryf.sizeOf36
  v37 := Tryf.zeroValue36
  t46 := Tryf.underlying28
  a46 := Tryf.isAgg28
  z46 := Tryf.sizeOf28
  v46 := Tryf.zeroValue28
  t51 := Tryf.underlying97
  a51 := Tryf.isAgg97
  z51 := Tryf.sizeOf97
  v51 := Tryf.zeroValue97
  t53 := Tryf.underlying22
  a53 := Tryf.isAgg22
  z53 := Tryf.sizeOf22
  v53 := Tryf.zeroValue22
  t171 := Tryf.underlying90
  a171 := Tryf.isAgg90
  z171 := Tryf.sizeOf90
  v171 := Tryf.zeroValue90
  t173 := Tryf.underlying92
  a173 := Tryf.isAgg92
  z173 := Tryf.sizeOf92
  v173 := Tryf.zeroValue92
  t212 := Tryf.underlying96
  a212 := Tryf.isAgg96
  z212 := Tryf.sizeOf96
  v212 := Tryf.zeroValue96
  t213 := Tryf.underlying98
  a213 := Tryf.isAgg98
  z213 := Tryf.sizeOf98
  t232 := Tryf.underlying101
  a232 := Tryf.isAgg101
  z232 := Tryf.sizeOf101
  v232 := Tryf.zeroValue101
  t233 := Tryf.underlying87
  a233 := Tryf.isAgg87
  z233 := Tryf.sizeOf87
  v233 := Tryf.zeroValue87
  g17 := by kernel_rfl
  g18 := by kernel_rfl
  g19 := by kernel_rfl
  i0 := by kernel_rfl
  i2 := by kernel_rfl
  i3 := by kernel_rfl
  i4 := by kernel_rfl
  i5 := by kernel_rfl
  i9 := by kernel_rfl
  i20 := by kernel_rfl
  i37 := by kernel_rfl
  i46 := by kernel_rfl
  i51 := by kernel_rfl
  i53 := by kernel_rfl
  i171 := by kernel_rfl
  i173 := by kernel_rfl
  i212 := by kernel_rfl
  i232 := by kernel_rfl
  i233 := by kernel_rfl
  m17 := by kernel_rfl
  m18 := by kernel_rfl
  m19 := by kernel_rfl }
open Go.RowKit Go.Sort Go.Lib in
/-- internal/strconv.FormatInt: "FormatInt returns the string representation of i in the given base": AT BASE 10: i's decimal numeral, for every int64. The world behind the call: the world before it, new blocks behind the heap, draws. (LAID: no walk: one application.) -/
theorem Tryf.internal_strconv_FormatInt_10 (n : Int) (h0 : -9223372036854775808 ≤ n) (h1 : n ≤ 9223372036854775807) (w : World) (htab : Lib.TabIs Tryf.prog w "internal/strconv.uint64pow10" .u64 Lib.pow10Tab) :
    Calls Tryf.prog 47 #[.int .i64 n, .int .i64 10] w fun e w' => e = .returned (.string ⟨(Lib.itoa n).toArray⟩) ∧ ∃ k os, w' = grow (w.drewN k) os := Any.internal_strconv_FormatInt_10 Tryf.laysM246 n h0 h1 w htab
def Tryf.lays246_ren : Go.Shelf.Ren := ⟨fun | 246 => 47 | 283 => 52 | 284 => 53 | 285 => 54 | 286 => 55 | 129 => 58 | 317 => 57 | 318 => 59 | 319 => 60 | 320 => 61 | 337 => 62 | 338 => 37 | n => n, fun | 2 => 2 | 3 => 3 | 9 => 9 | 4 => 4 | 171 => 90 | 0 => 0 | 53 => 22 | 37 => 36 | 5 => 5 | 173 => 92 | 212 => 96 | 51 => 97 | 20 => 20 | 213 => 98 | 46 => 28 | 232 => 101 | 233 => 87 | n => n, fun | 17 => 2 | 18 => 4 | 19 => 0 | n => n⟩
theorem Tryf.lays246 : Go.Proofs.Lays.n246 Tryf.prog Tryf.lays246_ren := {
  mixed := by kernel_rfl
  f129 := Tryf.func58.trans (congrArg some (by kernel_rfl))
  f246 := Tryf.func47.trans (congrArg some (by kernel_rfl))
  f283 := Tryf.func52.trans (congrArg some (by kernel_rfl))
  f284 := Tryf.func53.trans (congrArg some (by kernel_rfl))
  f285 := Tryf.func54.trans (congrArg some (by kernel_rfl))
  f286 := Tryf.func55.trans (congrArg some (by kernel_rfl))
  f317 := Tryf.func57.trans (congrArg some (by kernel_rfl))
  f318 := Tryf.func59.trans (congrArg some (by kernel_rfl))
  f319 := Tryf.func60.trans (congrArg some (by kernel_rfl))
  f320 := Tryf.func61.trans (congrArg some (by kernel_rfl))
  f337 := Tryf.func62.trans (congrArg some (by kernel_rfl))
  f338 := Tryf.func37.trans (congrArg some (by kernel_rfl))
  t0 := Tryf.underlying0
  a0 := Tryf.isAgg0
  z0 := Tryf.sizeOf0
  v0 := Tryf.zeroValue0
  t2 := Tryf.underlying2
  a2 := Tryf.isAgg2
  z2 := Tryf.sizeOf2
  v2 := Tryf.zeroValue2
  t3 := Tryf.underlying3
  a3 := Tryf.isAgg3
  z3 := Tryf.sizeOf3
  v3 := Tryf.zeroValue3
  t4 := Tryf.underlying4
  a4 := Tryf.isAgg4
  z4 := Tryf.sizeOf4
  v4 := Tryf.zeroValue4
  t5 := Tryf.underlying5
  a5 := Tryf.isAgg5
  z5 := Tryf.sizeOf5
  v5 := Tryf.zeroValue5
  t9 := Tryf.underlying9
  a9 := Tryf.isAgg9
  z9 := Tryf.sizeOf9
  v9 := Tryf.zeroValue9
  t20 := Tryf.underlying20
  a20 := Tryf.isAgg20
  z20 := Tryf.sizeOf20
  v20 := Tryf.zeroValue20
  t37 := Tryf.underlying36
  a37 := Tryf.isAgg36
  z37 := Tryf.sizeOf36
  v37 := Tryf.zeroValue36
  t46 := Tryf.underlying28
  a46 := Tryf.isAgg28
  z46 := Tryf.sizeOf28
  v46 := Tryf.zeroValue28
  t51 := Tryf.underlying97
  a51 := Tryf.isAgg97
  z51 := Tryf.sizeOf97
  v51 := Tryf.zeroValue97
  t53 := Tryf.underlying22
  a53 := Tryf.isAgg22
  z53 := Tryf.sizeOf22
  v53 := Tryf.zeroValue22
  t171 := Tryf.underlying90
  a171 := Tryf.isAgg90
  z171 := Tryf.sizeOf90
  v171 := Tryf.zeroValue90
  t173 := Tryf.underlying92
  a173 := Tryf.isAgg92
  z173 := Tryf.sizeOf92
  v173 := Tryf.zeroValue92
  t212 := Tryf.underlying96
  a212 := Tryf.isAgg96
  z212 := Tryf.sizeOf96
  v212 := Tryf.zeroValue96
  t213 := Tryf.underlying98
  a213 := Tryf.isAgg98
  z213 := Tryf.sizeOf98
  t232 := Tryf.underlying101
  a232 := Tryf.isAgg101
  z232 := Tryf.sizeOf101
  v232 := Tryf.zeroValue101
  t233 := Tryf.underlying87
  a233 := Tryf.isAgg87
  z233 := Tryf.sizeOf87
  v233 := Tryf.zeroValue87
  g17 := by kernel_rfl
  g18 := by kernel_rfl
  g19 := by kernel_rfl }
open Go.RowKit Go.Sort Go.Lib in
/-- THE ROAD WITHOUT THE TABLE: 0 <= i < 100: two constants are read, nothing is laid: no premise on the world, and the world is as it was. (LAID: no walk: one application.) -/
theorem Tryf.internal_strconv_FormatInt_10_small (i : Nat) (hi : i < 100) (w : World) :
    Calls Tryf.prog 47 #[.int .i64 i, .int .i64 10] w fun e w' => e = .returned (.string ⟨(Lib.decDigits i).toArray⟩) ∧ w' = w := Any.internal_strconv_FormatInt_10_small Tryf.lays246 i hi w
def Tryf.laysM243_ren : Go.Shelf.Ren := ⟨fun | 243 => 39 | 246 => 47 | 283 => 52 | 284 => 53 | 285 => 54 | 286 => 55 | 129 => 58 | 317 => 57 | 318 => 59 | 319 => 60 | 320 => 61 | 337 => 62 | 338 => 37 | n => n, fun | 3 => 3 | 9 => 9 | 2 => 2 | 4 => 4 | 171 => 90 | 0 => 0 | 53 => 22 | 37 => 36 | 5 => 5 | 173 => 92 | 212 => 96 | 51 => 97 | 20 => 20 | 213 => 98 | 46 => 28 | 232 => 101 | 233 => 87 | n => n, fun | 17 => 2 | 18 => 4 | 19 => 0 | n => n⟩
theorem Tryf.laysM243 : Go.Proofs.LaysM.n243 Tryf.prog Tryf.laysM243_ren := {
  mixed := by kernel_rfl
  f129 := Tryf.func58.trans (congrArg some (by kernel_rfl))
  f243 := Tryf.func39.trans (congrArg some (by kernel_rfl))
  f246 := Tryf.func47.trans (congrArg some (by kernel_rfl))
  f283 := Tryf.func52.trans (congrArg some (by kernel_rfl))
  f284 := Tryf.func53.trans (congrArg some (by kernel_rfl))
  f285 := Tryf.func54.trans (congrArg some (by kernel_rfl))
  f286 := Tryf.func55.trans (congrArg some (by kernel_rfl))
  f317 := Tryf.func57.trans (congrArg some (by kernel_rfl))
  f318 := Tryf.func59.trans (congrArg some (by kernel_rfl))
  f319 := Tryf.func60.trans (congrArg some (by kernel_rfl))
  f320 := Tryf.func61.trans (congrArg some (by kernel_rfl))
  f337 := Tryf.func62.trans (congrArg some (by kernel_rfl))
  f338 := Tryf.func37.trans (congrArg some (by kernel_rfl))
  t0 := Tryf.underlying0
  a0 := Tryf.isAgg0
  z0 := Tryf.sizeOf0
  v0 := Tryf.zeroValue0
  t2 := Tryf.underlying2
  a2 := Tryf.isAgg2
  z2 := Tryf.sizeOf2
  v2 := Tryf.zeroValue2
  t3 := Tryf.underlying3
  a3 := Tryf.isAgg3
  z3 := Tryf.sizeOf3
  v3 := Tryf.zeroValue3
  t4 := Tryf.underlying4
  a4 := Tryf.isAgg4
  z4 := Tryf.sizeOf4
  v4 := Tryf.zeroValue4
  t5 := Tryf.underlying5
  a5 := Tryf.isAgg5
  z5 := Tryf.sizeOf5
  v5 := Tryf.zeroValue5
  t9 := Tryf.underlying9
  a9 := Tryf.isAgg9
  z9 := Tryf.sizeOf9
  v9 := Tryf.zeroValue9
  t20 := Tryf.underlying20
  a20 := Tryf.isAgg20
  z20 := Tryf.sizeOf20
  v20 := Tryf.zeroValue20
  t37 := Tryf.underlying36
  a37 := Tryf.isAgg36
  z37 := Tryf.sizeOf36
  v37 := Tryf.zeroValue36
  t46 := Tryf.underlying28
  a46 := Tryf.isAgg28
  z46 := Tryf.sizeOf28
  v46 := Tryf.zeroValue28
  t51 := Tryf.underlying97
  a51 := Tryf.isAgg97
  z51 := Tryf.sizeOf97
  v51 := Tryf.zeroValue97
  t53 := Tryf.underlying22
  a53 := Tryf.isAgg22
  z53 := Tryf.sizeOf22
  v53 := Tryf.zeroValue22
  t171 := Tryf.underlying90
  a171 := Tryf.isAgg90
  z171 := Tryf.sizeOf90
  v171 := Tryf.zeroValue90
  t173 := Tryf.underlying92
  a173 := Tryf.isAgg92
  z173 := Tryf.sizeOf92
  v173 := Tryf.zeroValue92
  t212 := Tryf.underlying96
  a212 := Tryf.isAgg96
  z212 := Tryf.sizeOf96
  v212 := Tryf.zeroValue96
  t213 := Tryf.underlying98
  a213 := Tryf.isAgg98
  z213 := Tryf.sizeOf98
  t232 := Tryf.underlying101
  a232 := Tryf.isAgg101
  z232 := Tryf.sizeOf101
  v232 := Tryf.zeroValue101
  t233 := Tryf.underlying87
  a233 := Tryf.isAgg87
  z233 := Tryf.sizeOf87
  v233 := Tryf.zeroValue87
  g17 := by kernel_rfl
  g18 := by kernel_rfl
  g19 := by kernel_rfl
  i0 := by kernel_rfl
  i2 := by kernel_rfl
  i3 := by kernel_rfl
  i4 := by kernel_rfl
  i5 := by kernel_rfl
  i9 := by kernel_rfl
  i20 := by kernel_rfl
  i37 := by kernel_rfl
  i46 := by kernel_rfl
  i51 := by kernel_rfl
  i53 := by kernel_rfl
  i171 := by kernel_rfl
  i173 := by kernel_rfl
  i212 := by kernel_rfl
  i232 := by kernel_rfl
  i233 := by kernel_rfl
  m17 := by kernel_rfl
  m18 := by kernel_rfl
  m19 := by kernel_rfl }
open Go.RowKit Go.Sort Go.Lib in
/-- internal/strconv.Itoa: "Itoa is equivalent to FormatInt(int64(i), 10).": i's decimal numeral, for every int. (LAID: no walk: one application.) -/
theorem Tryf.internal_strconv_Itoa (n : Int) (h0 : -9223372036854775808 ≤ n) (h1 : n ≤ 9223372036854775807) (w : World) (htab : Lib.TabIs Tryf.prog w "internal/strconv.uint64pow10" .u64 Lib.pow10Tab) :
    Calls Tryf.prog 39 #[.int .i64 n] w fun e w' => e = .returned (.string ⟨(Lib.itoa n).toArray⟩) ∧ ∃ k os, w' = grow (w.drewN k) os := Any.internal_strconv_Itoa Tryf.laysM243 n h0 h1 w htab
def Tryf.lays243_ren : Go.Shelf.Ren := ⟨fun | 243 => 39 | 246 => 47 | 283 => 52 | 284 => 53 | 285 => 54 | 286 => 55 | 129 => 58 | 317 => 57 | 318 => 59 | 319 => 60 | 320 => 61 | 337 => 62 | 338 => 37 | n => n, fun | 3 => 3 | 9 => 9 | 2 => 2 | 4 => 4 | 171 => 90 | 0 => 0 | 53 => 22 | 37 => 36 | 5 => 5 | 173 => 92 | 212 => 96 | 51 => 97 | 20 => 20 | 213 => 98 | 46 => 28 | 232 => 101 | 233 => 87 | n => n, fun | 17 => 2 | 18 => 4 | 19 => 0 | n => n⟩
theorem Tryf.lays243 : Go.Proofs.Lays.n243 Tryf.prog Tryf.lays243_ren := {
  mixed := by kernel_rfl
  f129 := Tryf.func58.trans (congrArg some (by kernel_rfl))
  f243 := Tryf.func39.trans (congrArg some (by kernel_rfl))
  f246 := Tryf.func47.trans (congrArg some (by kernel_rfl))
  f283 := Tryf.func52.trans (congrArg some (by kernel_rfl))
  f284 := Tryf.func53.trans (congrArg some (by kernel_rfl))
  f285 := Tryf.func54.trans (congrArg some (by kernel_rfl))
  f286 := Tryf.func55.trans (congrArg some (by kernel_rfl))
  f317 := Tryf.func57.trans (congrArg some (by kernel_rfl))
  f318 := Tryf.func59.trans (congrArg some (by kernel_rfl))
  f319 := Tryf.func60.trans (congrArg some (by kernel_rfl))
  f320 := Tryf.func61.trans (congrArg some (by kernel_rfl))
  f337 := Tryf.func62.trans (congrArg some (by kernel_rfl))
  f338 := Tryf.func37.trans (congrArg some (by kernel_rfl))
  t0 := Tryf.underlying0
  a0 := Tryf.isAgg0
  z0 := Tryf.sizeOf0
  v0 := Tryf.zeroValue0
  t2 := Tryf.underlying2
  a2 := Tryf.isAgg2
  z2 := Tryf.sizeOf2
  v2 := Tryf.zeroValue2
  t3 := Tryf.underlying3
  a3 := Tryf.isAgg3
  z3 := Tryf.sizeOf3
  v3 := Tryf.zeroValue3
  t4 := Tryf.underlying4
  a4 := Tryf.isAgg4
  z4 := Tryf.sizeOf4
  v4 := Tryf.zeroValue4
  t5 := Tryf.underlying5
  a5 := Tryf.isAgg5
  z5 := Tryf.sizeOf5
  v5 := Tryf.zeroValue5
  t9 := Tryf.underlying9
  a9 := Tryf.isAgg9
  z9 := Tryf.sizeOf9
  v9 := Tryf.zeroValue9
  t20 := Tryf.underlying20
  a20 := Tryf.isAgg20
  z20 := Tryf.sizeOf20
  v20 := Tryf.zeroValue20
  t37 := Tryf.underlying36
  a37 := Tryf.isAgg36
  z37 := Tryf.sizeOf36
  v37 := Tryf.zeroValue36
  t46 := Tryf.underlying28
  a46 := Tryf.isAgg28
  z46 := Tryf.sizeOf28
  v46 := Tryf.zeroValue28
  t51 := Tryf.underlying97
  a51 := Tryf.isAgg97
  z51 := Tryf.sizeOf97
  v51 := Tryf.zeroValue97
  t53 := Tryf.underlying22
  a53 := Tryf.isAgg22
  z53 := Tryf.sizeOf22
  v53 := Tryf.zeroValue22
  t171 := Tryf.underlying90
  a171 := Tryf.isAgg90
  z171 := Tryf.sizeOf90
  v171 := Tryf.zeroValue90
  t173 := Tryf.underlying92
  a173 := Tryf.isAgg92
  z173 := Tryf.sizeOf92
  v173 := Tryf.zeroValue92
  t212 := Tryf.underlying96
  a212 := Tryf.isAgg96
  z212 := Tryf.sizeOf96
  v212 := Tryf.zeroValue96
  t213 := Tryf.underlying98
  a213 := Tryf.isAgg98
  z213 := Tryf.sizeOf98
  t232 := Tryf.underlying101
  a232 := Tryf.isAgg101
  z232 := Tryf.sizeOf101
  v232 := Tryf.zeroValue101
  t233 := Tryf.underlying87
  a233 := Tryf.isAgg87
  z233 := Tryf.sizeOf87
  v233 := Tryf.zeroValue87
  g17 := by kernel_rfl
  g18 := by kernel_rfl
  g19 := by kernel_rfl }
open Go.RowKit Go.Sort Go.Lib in
/-- THE ROAD WITHOUT THE TABLE: 0 <= i < 100. (LAID: no walk: one application.) -/
theorem Tryf.internal_strconv_Itoa_small (i : Nat) (hi : i < 100) (w : World) :
    Calls Tryf.prog 39 #[.int .i64 i] w fun e w' => e = .returned (.string ⟨(Lib.decDigits i).toArray⟩) ∧ w' = w := Any.internal_strconv_Itoa_small Tryf.lays243 i hi w
def Tryf.laysM171_ren : Go.Shelf.Ren := ⟨fun | 171 => 25 | 243 => 39 | 246 => 47 | 283 => 52 | 284 => 53 | 285 => 54 | 286 => 55 | 129 => 58 | 317 => 57 | 318 => 59 | 319 => 60 | 320 => 61 | 337 => 62 | 338 => 37 | n => n, fun | 3 => 3 | 9 => 9 | 2 => 2 | 4 => 4 | 171 => 90 | 0 => 0 | 53 => 22 | 37 => 36 | 5 => 5 | 173 => 92 | 212 => 96 | 51 => 97 | 20 => 20 | 213 => 98 | 46 => 28 | 232 => 101 | 233 => 87 | n => n, fun | 17 => 2 | 18 => 4 | 19 => 0 | n => n⟩
theorem Tryf.laysM171 : Go.Proofs.LaysM.n171 Tryf.prog Tryf.laysM171_ren := {
  mixed := by kernel_rfl
  f129 := Tryf.func58.trans (congrArg some (by kernel_rfl))
  f171 := Tryf.func25.trans (congrArg some (by kernel_rfl))
  f243 := Tryf.func39.trans (congrArg some (by kernel_rfl))
  f246 := Tryf.func47.trans (congrArg some (by kernel_rfl))
  f283 := Tryf.func52.trans (congrArg some (by kernel_rfl))
  f284 := Tryf.func53.trans (congrArg some (by kernel_rfl))
  f285 := Tryf.func54.trans (congrArg some (by kernel_rfl))
  f286 := Tryf.func55.trans (congrArg some (by kernel_rfl))
  f317 := Tryf.func57.trans (congrArg some (by kernel_rfl))
  f318 := Tryf.func59.trans (congrArg some (by kernel_rfl))
  f319 := Tryf.func60.trans (congrArg some (by kernel_rfl))
  f320 := Tryf.func61.trans (congrArg some (by kernel_rfl))
  f337 := Tryf.func62.trans (congrArg some (by kernel_rfl))
  f338 := Tryf.func37.trans (congrArg some (by kernel_rfl))
  t0 := Tryf.underlying0
  a0 := Tryf.isAgg0
  z0 := Tryf.sizeOf0
  v0 := Tryf.zeroValue0
  t2 := Tryf.underlying2
  a2 := Tryf.isAgg2
  z2 := Tryf.sizeOf2
  v2 := Tryf.zeroValue2
  t3 := Tryf.underlying3
  a3 := Tryf.isAgg3
  z3 := Tryf.sizeOf3
  v3 := Tryf.zeroValue3
  t4 := Tryf.underlying4
  a4 := Tryf.isAgg4
  z4 := Tryf.sizeOf4
  v4 := Tryf.zeroValue4
  t5 := Tryf.underlying5
  a5 := Tryf.isAgg5
  z5 := Tryf.sizeOf5
  v5 := Tryf.zeroValue5
  t9 := Tryf.underlying9
  a9 := Tryf.isAgg9
  z9 := Tryf.sizeOf9
  v9 := Tryf.zeroValue9
  t20 := Tryf.underlying20
  a20 := Tryf.isAgg20
  z20 := Tryf.sizeOf20
  v20 := Tryf.zeroValue20
  t37 := Tryf.underlying36
  a37 := Tryf.isAgg36
  z37 := Tryf.sizeOf36
  v37 := Tryf.zeroValue36
  t46 := Tryf.underlying28
  a46 := Tryf.isAgg28
  z46 := Tryf.sizeOf28
  v46 := Tryf.zeroValue28
  t51 := Tryf.underlying97
  a51 := Tryf.isAgg97
  z51 := Tryf.sizeOf97
  v51 := Tryf.zeroValue97
  t53 := Tryf.underlying22
  a53 := Tryf.isAgg22
  z53 := Tryf.sizeOf22
  v53 := Tryf.zeroValue22
  t171 := Tryf.underlying90
  a171 := Tryf.isAgg90
  z171 := Tryf.sizeOf90
  v171 := Tryf.zeroValue90
  t173 := Tryf.underlying92
  a173 := Tryf.isAgg92
  z173 := Tryf.sizeOf92
  v173 := Tryf.zeroValue92
  t212 := Tryf.underlying96
  a212 := Tryf.isAgg96
  z212 := Tryf.sizeOf96
  v212 := Tryf.zeroValue96
  t213 := Tryf.underlying98
  a213 := Tryf.isAgg98
  z213 := Tryf.sizeOf98
  t232 := Tryf.underlying101
  a232 := Tryf.isAgg101
  z232 := Tryf.sizeOf101
  v232 := Tryf.zeroValue101
  t233 := Tryf.underlying87
  a233 := Tryf.isAgg87
  z233 := Tryf.sizeOf87
  v233 := Tryf.zeroValue87
  g17 := by kernel_rfl
  g18 := by kernel_rfl
  g19 := by kernel_rfl
  i0 := by kernel_rfl
  i2 := by kernel_rfl
  i3 := by kernel_rfl
  i4 := by kernel_rfl
  i5 := by kernel_rfl
  i9 := by kernel_rfl
  i20 := by kernel_rfl
  i37 := by kernel_rfl
  i46 := by kernel_rfl
  i51 := by kernel_rfl
  i53 := by kernel_rfl
  i171 := by kernel_rfl
  i173 := by kernel_rfl
  i212 := by kernel_rfl
  i232 := by kernel_rfl
  i233 := by kernel_rfl
  m17 := by kernel_rfl
  m18 := by kernel_rfl
  m19 := by kernel_rfl }
open Go.RowKit Go.Sort Go.Lib in
/-- strconv.Itoa: "Itoa is equivalent to FormatInt(int64(i), 10).": i's DECIMAL NUMERAL ('Lib.itoa': a '-' where i is negative, then the digits), FOR EVERY int. The world behind the call: the world before it, new blocks behind the heap (the library's 'var a [24]byte'), draws. (LAID: no walk: one application.) -/
theorem Tryf.strconv_Itoa (n : Int) (h0 : -9223372036854775808 ≤ n) (h1 : n ≤ 9223372036854775807) (w : World) (htab : Lib.TabIs Tryf.prog w "internal/strconv.uint64pow10" .u64 Lib.pow10Tab) :
    Calls Tryf.prog 25 #[.int .i64 n] w fun e w' => e = .returned (.string ⟨(Lib.itoa n).toArray⟩) ∧ ∃ k os, w' = grow (w.drewN k) os := Any.strconv_Itoa Tryf.laysM171 n h0 h1 w htab
def Tryf.lays171_ren : Go.Shelf.Ren := ⟨fun | 171 => 25 | 243 => 39 | 246 => 47 | 283 => 52 | 284 => 53 | 285 => 54 | 286 => 55 | 129 => 58 | 317 => 57 | 318 => 59 | 319 => 60 | 320 => 61 | 337 => 62 | 338 => 37 | n => n, fun | 3 => 3 | 9 => 9 | 2 => 2 | 4 => 4 | 171 => 90 | 0 => 0 | 53 => 22 | 37 => 36 | 5 => 5 | 173 => 92 | 212 => 96 | 51 => 97 | 20 => 20 | 213 => 98 | 46 => 28 | 232 => 101 | 233 => 87 | n => n, fun | 17 => 2 | 18 => 4 | 19 => 0 | n => n⟩
theorem Tryf.lays171 : Go.Proofs.Lays.n171 Tryf.prog Tryf.lays171_ren := {
  mixed := by kernel_rfl
  f129 := Tryf.func58.trans (congrArg some (by kernel_rfl))
  f171 := Tryf.func25.trans (congrArg some (by kernel_rfl))
  f243 := Tryf.func39.trans (congrArg some (by kernel_rfl))
  f246 := Tryf.func47.trans (congrArg some (by kernel_rfl))
  f283 := Tryf.func52.trans (congrArg some (by kernel_rfl))
  f284 := Tryf.func53.trans (congrArg some (by kernel_rfl))
  f285 := Tryf.func54.trans (congrArg some (by kernel_rfl))
  f286 := Tryf.func55.trans (congrArg some (by kernel_rfl))
  f317 := Tryf.func57.trans (congrArg some (by kernel_rfl))
  f318 := Tryf.func59.trans (congrArg some (by kernel_rfl))
  f319 := Tryf.func60.trans (congrArg some (by kernel_rfl))
  f320 := Tryf.func61.trans (congrArg some (by kernel_rfl))
  f337 := Tryf.func62.trans (congrArg some (by kernel_rfl))
  f338 := Tryf.func37.trans (congrArg some (by kernel_rfl))
  t0 := Tryf.underlying0
  a0 := Tryf.isAgg0
  z0 := Tryf.sizeOf0
  v0 := Tryf.zeroValue0
  t2 := Tryf.underlying2
  a2 := Tryf.isAgg2
  z2 := Tryf.sizeOf2
  v2 := Tryf.zeroValue2
  t3 := Tryf.underlying3
  a3 := Tryf.isAgg3
  z3 := Tryf.sizeOf3
  v3 := Tryf.zeroValue3
  t4 := Tryf.underlying4
  a4 := Tryf.isAgg4
  z4 := Tryf.sizeOf4
  v4 := Tryf.zeroValue4
  t5 := Tryf.underlying5
  a5 := Tryf.isAgg5
  z5 := Tryf.sizeOf5
  v5 := Tryf.zeroValue5
  t9 := Tryf.underlying9
  a9 := Tryf.isAgg9
  z9 := Tryf.sizeOf9
  v9 := Tryf.zeroValue9
  t20 := Tryf.underlying20
  a20 := Tryf.isAgg20
  z20 := Tryf.sizeOf20
  v20 := Tryf.zeroValue20
  t37 := Tryf.underlying36
  a37 := Tryf.isAgg36
  z37 := Tryf.sizeOf36
  v37 := Tryf.zeroValue36
  t46 := Tryf.underlying28
  a46 := Tryf.isAgg28
  z46 := Tryf.sizeOf28
  v46 := Tryf.zeroValue28
  t51 := Tryf.underlying97
  a51 := Tryf.isAgg97
  z51 := Tryf.sizeOf97
  v51 := Tryf.zeroValue97
  t53 := Tryf.underlying22
  a53 := Tryf.isAgg22
  z53 := Tryf.sizeOf22
  v53 := Tryf.zeroValue22
  t171 := Tryf.underlying90
  a171 := Tryf.isAgg90
  z171 := Tryf.sizeOf90
  v171 := Tryf.zeroValue90
  t173 := Tryf.underlying92
  a173 := Tryf.isAgg92
  z173 := Tryf.sizeOf92
  v173 := Tryf.zeroValue92
  t212 := Tryf.underlying96
  a212 := Tryf.isAgg96
  z212 := Tryf.sizeOf96
  v212 := Tryf.zeroValue96
  t213 := Tryf.underlying98
  a213 := Tryf.isAgg98
  z213 := Tryf.sizeOf98
  t232 := Tryf.underlying101
  a232 := Tryf.isAgg101
  z232 := Tryf.sizeOf101
  v232 := Tryf.zeroValue101
  t233 := Tryf.underlying87
  a233 := Tryf.isAgg87
  z233 := Tryf.sizeOf87
  v233 := Tryf.zeroValue87
  g17 := by kernel_rfl
  g18 := by kernel_rfl
  g19 := by kernel_rfl }
open Go.RowKit Go.Sort Go.Lib in
/-- THE ROAD WITHOUT THE TABLE: 0 <= i < 100: NO PREMISE ON THE WORLD, AND THE WORLD IS AS IT WAS: a row that keeps its argument in that range need list no table ('laid = []'). (LAID: no walk: one application.) -/
theorem Tryf.strconv_Itoa_small (i : Nat) (hi : i < 100) (w : World) :
    Calls Tryf.prog 25 #[.int .i64 i] w fun e w' => e = .returned (.string ⟨(Lib.decDigits i).toArray⟩) ∧ w' = w := Any.strconv_Itoa_small Tryf.lays171 i hi w
end Go.Proofs
