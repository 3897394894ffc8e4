/-
  The contracts of the kit's shelf for strings.Builder, laid at this program. Written by the kit's own tools (lay-shelf, lay-plain); the table for copyCheck, WriteByte and WriteString is typed by hand, for the tool lays none there: a type that only the panic's value bears is named by no body.
-/
import Derived.Shelf.Strings.Builder1
import Derived.Shelf.Strings.Builder2
import Derived.Test.Qxb6602967aProg
namespace Go.Proofs
open Go.Shelf
def Try.lays169_ren : Go.Shelf.Ren := ⟨fun | 169 => 39 | n => n, fun | 70 => 48 | 9 => 9 | 0 => 0 | 72 => 50 | 37 => 23 | 127 => 57 | 3 => 3 | 5 => 5 | n => n, fun | n => n⟩
theorem Try.lays169 : Go.Proofs.Lays.n169 Try.prog Try.lays169_ren := {
  mixed := by kernel_rfl
  f169 := Try.func39.trans (congrArg some (by kernel_rfl))
  t0 := Try.underlying0
  a0 := Try.isAgg0
  z0 := Try.sizeOf0
  v0 := Try.zeroValue0
  t3 := Try.underlying3
  a3 := Try.isAgg3
  z3 := Try.sizeOf3
  v3 := Try.zeroValue3
  t9 := Try.underlying9
  a9 := Try.isAgg9
  z9 := Try.sizeOf9
  v9 := Try.zeroValue9
  t37 := Try.underlying23
  a37 := Try.isAgg23
  z37 := Try.sizeOf23
  v37 := Try.zeroValue23
  t70 := Try.underlying48
  a70 := Try.isAgg48
  z70 := Try.sizeOf48
  v70 := Try.zeroValue48
  t72 := Try.underlying50
  a72 := Try.isAgg50
  z72 := Try.sizeOf50
  v72 := Try.zeroValue50
  t127 := Try.underlying57
  a127 := Try.isAgg57
  z127 := Try.sizeOf57
  v127 := Try.zeroValue57 }
theorem Try.Builder_Extra_169 : Builder.Extra Try.prog Try.lays169_ren := {
  sizeBuilder := by kernel_rfl
  liesBuilder := by kernel_rfl
  t5 := Try.underlying5
  a5 := Try.isAgg5
  z5 := Try.sizeOf5
  v5 := Try.zeroValue5
  infoByte := by kernel_rfl
  cellsByte := by kernel_rfl
  sizeByte := by kernel_rfl
  neB5 := by decide }
open Go.RowKit in
theorem Try.Builder_String (B b : Nat) (l : List UInt8) (w : World) (h : Lib.IsBuilder 50 5 B b (Lib.byteCells l) w) (h0 : l ≠ []) :
    Calls Try.prog 39 #[.pointer (some ⟨b, 0, none⟩)] w fun e w' => e = .returned (.string ⟨l.toArray⟩) ∧ Below B w w' := Any.Builder_String Try.lays169 Try.Builder_Extra_169 B b l w h h0
open Go.RowKit in
theorem Try.Builder_String_empty (B b : Nat) (w : World) (h : Lib.IsBuilder 50 5 B b [] w) (hBw : B ≤ w.heap.size) :
    Calls Try.prog 39 #[.pointer (some ⟨b, 0, none⟩)] w fun e w' => e = .returned (.string ⟨#[]⟩) ∧ Below B w w' := Any.Builder_String_empty Try.lays169 Try.Builder_Extra_169 B b w h hBw
open Go.RowKit in
theorem Try.Builder_String_any (B b : Nat) (l : List UInt8) (w : World) (h : Lib.IsBuilder 50 5 B b (Lib.byteCells l) w) (hBw : B ≤ w.heap.size) :
    Calls Try.prog 39 #[.pointer (some ⟨b, 0, none⟩)] w fun e w' => e = .returned (.string ⟨l.toArray⟩) ∧ Below B w w' := Any.Builder_String_any Try.lays169 Try.Builder_Extra_169 B b l w h hBw
def Try.lays241_ren : Go.Shelf.Ren := ⟨fun | 241 => 42 | 277 => 45 | n => n, fun | 70 => 48 | 3 => 3 | 0 => 0 | 72 => 50 | 37 => 23 | 5 => 5 | n => n, fun | n => n⟩
theorem Try.lays241 : Go.Proofs.Lays.n241 Try.prog Try.lays241_ren := {
  mixed := by kernel_rfl
  f241 := Try.func42.trans (congrArg some (by kernel_rfl))
  f277 := Try.func45.trans (congrArg some (by kernel_rfl))
  t0 := Try.underlying0
  a0 := Try.isAgg0
  z0 := Try.sizeOf0
  v0 := Try.zeroValue0
  t3 := Try.underlying3
  a3 := Try.isAgg3
  z3 := Try.sizeOf3
  v3 := Try.zeroValue3
  t37 := Try.underlying23
  a37 := Try.isAgg23
  z37 := Try.sizeOf23
  v37 := Try.zeroValue23
  t70 := Try.underlying48
  a70 := Try.isAgg48
  z70 := Try.sizeOf48
  v70 := Try.zeroValue48
  t72 := Try.underlying50
  a72 := Try.isAgg50
  z72 := Try.sizeOf50
  v72 := Try.zeroValue50 }
theorem Try.Builder_Extra_241 : Builder.Extra Try.prog Try.lays241_ren := {
  sizeBuilder := by kernel_rfl
  liesBuilder := by kernel_rfl
  t5 := Try.underlying5
  a5 := Try.isAgg5
  z5 := Try.sizeOf5
  v5 := Try.zeroValue5
  infoByte := by kernel_rfl
  cellsByte := by kernel_rfl
  sizeByte := by kernel_rfl
  neB5 := by decide }
open Go.RowKit in
theorem Try.Builder_grow_fresh (B b n : Nat) (w : World) (hB : B ≤ b) (hbk : w.heap[b]? = some (.cells #[.pointer (some ⟨b, 0, none⟩), .slice none 0 0] 50 (0, 0))) (hBw : B ≤ w.heap.size) (hn : n ≤ 281474976710656) :
    Calls Try.prog 42 #[.pointer (some ⟨b, 0, none⟩), .int .i64 n] w fun e w' => e = .returned (.tuple #[]) ∧ (Lib.BuilderAt 50 5 B b (.pointer (some ⟨b, 0, none⟩)) [] w' ∧ Below B w w') := Any.Builder_grow_fresh Try.lays241 Try.Builder_Extra_241 B b n w hB hbk hBw hn
def Try.lays165_ren : Go.Shelf.Ren := ⟨fun | 165 => 36 | 240 => 41 | 241 => 42 | 276 => 44 | 277 => 45 | n => n, fun | 70 => 48 | 3 => 3 | 0 => 0 | 4 => 4 | 9 => 9 | 20 => 20 | 72 => 50 | 37 => 23 | 164 => 58 | 5 => 5 | n => n, fun | n => n⟩
theorem Try.lays165 : Go.Proofs.Lays.n165 Try.prog Try.lays165_ren := {
  mixed := by kernel_rfl
  f165 := Try.func36.trans (congrArg some (by kernel_rfl))
  f240 := Try.func41.trans (congrArg some (by kernel_rfl))
  f241 := Try.func42.trans (congrArg some (by kernel_rfl))
  f276 := Try.func44.trans (congrArg some (by kernel_rfl))
  f277 := Try.func45.trans (congrArg some (by kernel_rfl))
  t0 := Try.underlying0
  a0 := Try.isAgg0
  z0 := Try.sizeOf0
  v0 := Try.zeroValue0
  t3 := Try.underlying3
  a3 := Try.isAgg3
  z3 := Try.sizeOf3
  v3 := Try.zeroValue3
  t4 := Try.underlying4
  a4 := Try.isAgg4
  z4 := Try.sizeOf4
  v4 := Try.zeroValue4
  t9 := Try.underlying9
  a9 := Try.isAgg9
  z9 := Try.sizeOf9
  v9 := Try.zeroValue9
  t20 := Try.underlying20
  a20 := Try.isAgg20
  z20 := Try.sizeOf20
  v20 := Try.zeroValue20
  t37 := Try.underlying23
  a37 := Try.isAgg23
  z37 := Try.sizeOf23
  v37 := Try.zeroValue23
  t70 := Try.underlying48
  a70 := Try.isAgg48
  z70 := Try.sizeOf48
  v70 := Try.zeroValue48
  t72 := Try.underlying50
  a72 := Try.isAgg50
  z72 := Try.sizeOf50
  v72 := Try.zeroValue50
  t164 := Try.underlying58
  a164 := Try.isAgg58
  z164 := Try.sizeOf58
  v164 := Try.zeroValue58 }
theorem Try.Builder_Extra_165 : Builder.Extra Try.prog Try.lays165_ren := {
  sizeBuilder := by kernel_rfl
  liesBuilder := by kernel_rfl
  t5 := Try.underlying5
  a5 := Try.isAgg5
  z5 := Try.sizeOf5
  v5 := Try.zeroValue5
  infoByte := by kernel_rfl
  cellsByte := by kernel_rfl
  sizeByte := by kernel_rfl
  neB5 := by decide }
open Go.RowKit in
theorem Try.Builder_Grow_fresh (B b n : Nat) (w : World) (hB : B ≤ b) (hbk : w.heap[b]? = some (.cells #[.pointer none, .slice none 0 0] 50 (0, 0))) (hBw : B ≤ w.heap.size) (hn : n ≤ 281474976710656) :
    Calls Try.prog 36 #[.pointer (some ⟨b, 0, none⟩), .int .i64 n] w fun e w' => e = .returned (.tuple #[]) ∧ (Lib.BuilderAt 50 5 B b (.pointer (some ⟨b, 0, none⟩)) [] w' ∧ Below B w w') := Any.Builder_Grow_fresh Try.lays165 Try.Builder_Extra_165 B b n w hB hbk hBw hn
def Try.laysW_ren : Go.Shelf.Ren := ⟨fun | 166 => 37 | 167 => 38 | 240 => 41 | 276 => 44 | n => n, fun | 70 => 48 | 3 => 3 | 0 => 0 | 4 => 4 | 9 => 9 | 20 => 20 | 72 => 50 | 37 => 23 | 164 => 58 | 5 => 5 | 75 => 53 | 80 => 43 | n => n, fun | n => n⟩
theorem Try.lays240 : Go.Proofs.Lays.n240 Try.prog Try.laysW_ren := {
  mixed := by kernel_rfl
  f240 := Try.func41.trans (congrArg some (by kernel_rfl))
  f276 := Try.func44.trans (congrArg some (by kernel_rfl))
  t0 := Try.underlying0
  a0 := Try.isAgg0
  z0 := Try.sizeOf0
  v0 := Try.zeroValue0
  t4 := Try.underlying4
  a4 := Try.isAgg4
  z4 := Try.sizeOf4
  v4 := Try.zeroValue4
  t9 := Try.underlying9
  a9 := Try.isAgg9
  z9 := Try.sizeOf9
  v9 := Try.zeroValue9
  t20 := Try.underlying20
  a20 := Try.isAgg20
  z20 := Try.sizeOf20
  v20 := Try.zeroValue20
  t70 := Try.underlying48
  a70 := Try.isAgg48
  z70 := Try.sizeOf48
  v70 := Try.zeroValue48
  t72 := Try.underlying50
  a72 := Try.isAgg50
  z72 := Try.sizeOf50
  v72 := Try.zeroValue50
  t164 := Try.underlying58
  a164 := Try.isAgg58
  z164 := Try.sizeOf58
  v164 := Try.zeroValue58 }
theorem Try.lays167 : Go.Proofs.Lays.n167 Try.prog Try.laysW_ren := {
  mixed := by kernel_rfl
  f167 := Try.func38.trans (congrArg some (by kernel_rfl))
  f240 := Try.func41.trans (congrArg some (by kernel_rfl))
  f276 := Try.func44.trans (congrArg some (by kernel_rfl))
  t0 := Try.underlying0
  a0 := Try.isAgg0
  z0 := Try.sizeOf0
  v0 := Try.zeroValue0
  t4 := Try.underlying4
  a4 := Try.isAgg4
  z4 := Try.sizeOf4
  v4 := Try.zeroValue4
  t5 := Try.underlying5
  a5 := Try.isAgg5
  z5 := Try.sizeOf5
  v5 := Try.zeroValue5
  t9 := Try.underlying9
  a9 := Try.isAgg9
  z9 := Try.sizeOf9
  v9 := Try.zeroValue9
  t20 := Try.underlying20
  a20 := Try.isAgg20
  z20 := Try.sizeOf20
  v20 := Try.zeroValue20
  t37 := Try.underlying23
  a37 := Try.isAgg23
  z37 := Try.sizeOf23
  v37 := Try.zeroValue23
  t70 := Try.underlying48
  a70 := Try.isAgg48
  z70 := Try.sizeOf48
  v70 := Try.zeroValue48
  t72 := Try.underlying50
  a72 := Try.isAgg50
  z72 := Try.sizeOf50
  v72 := Try.zeroValue50
  t75 := Try.underlying53
  a75 := Try.isAgg53
  z75 := Try.sizeOf53
  v75 := Try.zeroValue53
  t164 := Try.underlying58
  a164 := Try.isAgg58
  z164 := Try.sizeOf58
  v164 := Try.zeroValue58 }
theorem Try.lays166 : Go.Proofs.Lays.n166 Try.prog Try.laysW_ren := {
  mixed := by kernel_rfl
  f166 := Try.func37.trans (congrArg some (by kernel_rfl))
  f240 := Try.func41.trans (congrArg some (by kernel_rfl))
  f276 := Try.func44.trans (congrArg some (by kernel_rfl))
  t0 := Try.underlying0
  a0 := Try.isAgg0
  z0 := Try.sizeOf0
  v0 := Try.zeroValue0
  t3 := Try.underlying3
  a3 := Try.isAgg3
  z3 := Try.sizeOf3
  v3 := Try.zeroValue3
  t4 := Try.underlying4
  a4 := Try.isAgg4
  z4 := Try.sizeOf4
  v4 := Try.zeroValue4
  t9 := Try.underlying9
  a9 := Try.isAgg9
  z9 := Try.sizeOf9
  v9 := Try.zeroValue9
  t20 := Try.underlying20
  a20 := Try.isAgg20
  z20 := Try.sizeOf20
  v20 := Try.zeroValue20
  t37 := Try.underlying23
  a37 := Try.isAgg23
  z37 := Try.sizeOf23
  v37 := Try.zeroValue23
  t70 := Try.underlying48
  a70 := Try.isAgg48
  z70 := Try.sizeOf48
  v70 := Try.zeroValue48
  t72 := Try.underlying50
  a72 := Try.isAgg50
  z72 := Try.sizeOf50
  v72 := Try.zeroValue50
  t75 := Try.underlying53
  a75 := Try.isAgg53
  z75 := Try.sizeOf53
  v75 := Try.zeroValue53
  t164 := Try.underlying58
  a164 := Try.isAgg58
  z164 := Try.sizeOf58
  v164 := Try.zeroValue58 }
theorem Try.Builder_Extra_W : Builder.Extra Try.prog Try.laysW_ren := {
  sizeBuilder := by kernel_rfl
  liesBuilder := by kernel_rfl
  t5 := Try.underlying5
  a5 := Try.isAgg5
  z5 := Try.sizeOf5
  v5 := Try.zeroValue5
  infoByte := by kernel_rfl
  cellsByte := by kernel_rfl
  sizeByte := by kernel_rfl
  neB5 := by decide }
open Go.RowKit in
theorem Try.Builder_WriteByte (B b : Nat) (bs : List Value) (c : Int) (w : World) (h : Lib.IsBuilder 50 5 B b bs w) (hlen : bs.length + 1 ≤ 140737488355328) (hBw : B ≤ w.heap.size) :
    Calls Try.prog 38 #[.pointer (some ⟨b, 0, none⟩), .int .u8 c] w fun e w' => e = .returned .nilIface ∧ (Lib.BuilderAt 50 5 B b (.pointer (some ⟨b, 0, none⟩)) (bs ++ [.int .u8 c]) w' ∧ Below B w w') := Any.Builder_WriteByte Try.lays167 Try.Builder_Extra_W B b bs c w h hlen hBw
open Go.RowKit in
theorem Try.Builder_WriteString (B b : Nat) (bs : List Value) (s : ByteArray) (w : World) (h : Lib.IsBuilder 50 5 B b bs w) (hlen : bs.length + s.size ≤ 140737488355328) (hBw : B ≤ w.heap.size) :
    Calls Try.prog 37 #[.pointer (some ⟨b, 0, none⟩), .string s] w fun e w' => e = .returned (.tuple #[.int .i64 s.size, .nilIface]) ∧ (Lib.BuilderAt 50 5 B b (.pointer (some ⟨b, 0, none⟩)) (bs ++ Lib.strCells s) w' ∧ Below B w w') := Any.Builder_WriteString Try.lays166 Try.Builder_Extra_W B b bs s w h hlen hBw
end Go.Proofs
