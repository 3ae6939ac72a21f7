/-
  The contracts of the library's strings.Builder, laid at this program's numbers: the library's own theorems, applied. The table of numbers is read off the bodies (they are the same, function for function).
-/
import Derived.Shelf.Strings.Builder1
import Derived.Shelf.Small.Strs
import Derived.Shelf.Strings.BuilderF
import Derived.Shelf.Strings.BuilderK
import Derived.Shelf.Strings.BuilderRune
import Derived.Test.Qxb6601022aProg
namespace Go.Proofs
open Go.Shelf
def Try.lays167_ren : Go.Shelf.Ren := ⟨fun | 166 => 36 | 167 => 34 | 168 => 37 | 169 => 32 | 240 => 39 | 242 => 41 | 276 => 43 | 278 => 44 | n => n, fun | 0 => 0 | 3 => 3 | 4 => 4 | 5 => 5 | 9 => 9 | 20 => 20 | 21 => 21 | 37 => 31 | 46 => 44 | 51 => 52 | 70 => 61 | 72 => 63 | 75 => 71 | 80 => 68 | 127 => 78 | 164 => 81 | n => n, fun | n => n⟩
theorem Try.lays167 : Go.Proofs.Lays.n167 Try.prog Try.lays167_ren := {
  mixed := by kernel_rfl
  f167 := Try.func34.trans (congrArg some (by kernel_rfl))
  f240 := Try.func39.trans (congrArg some (by kernel_rfl))
  f276 := Try.func43.trans (congrArg some (by kernel_rfl))
  t0 := Try.underlying0
  a0 := Try.isAgg0
  z0 := Try.sizeOf0
  v0 := Try.zeroValue0
  t4 := Try.underlying4
  a4 := Try.isAgg4
  z4 := Try.sizeOf4
  v4 := Try.zeroValue4
  t5 := Try.underlying5
  a5 := Try.isAgg5
  z5 := Try.sizeOf5
  v5 := Try.zeroValue5
  t9 := Try.underlying9
  a9 := Try.isAgg9
  z9 := Try.sizeOf9
  v9 := Try.zeroValue9
  t20 := Try.underlying20
  a20 := Try.isAgg20
  z20 := Try.sizeOf20
  v20 := Try.zeroValue20
  t37 := Try.underlying31
  a37 := Try.isAgg31
  z37 := Try.sizeOf31
  v37 := Try.zeroValue31
  t70 := Try.underlying61
  a70 := Try.isAgg61
  z70 := Try.sizeOf61
  v70 := Try.zeroValue61
  t72 := Try.underlying63
  a72 := Try.isAgg63
  z72 := Try.sizeOf63
  v72 := Try.zeroValue63
  t75 := Try.underlying71
  a75 := Try.isAgg71
  z75 := Try.sizeOf71
  v75 := Try.zeroValue71
  t164 := Try.underlying81
  a164 := Try.isAgg81
  z164 := Try.sizeOf81
  v164 := Try.zeroValue81 }
theorem Try.Builder_Extra_167 : Builder.Extra Try.prog Try.lays167_ren := {
  sizeBuilder := by kernel_rfl
  liesBuilder := by kernel_rfl
  t5 := Try.underlying5
  a5 := Try.isAgg5
  z5 := Try.sizeOf5
  v5 := Try.zeroValue5
  infoByte := by kernel_rfl
  cellsByte := by kernel_rfl
  sizeByte := by kernel_rfl
  neB5 := by decide }
def Try.lays166_ren : Go.Shelf.Ren := ⟨fun | 166 => 36 | 167 => 34 | 168 => 37 | 169 => 32 | 240 => 39 | 242 => 41 | 276 => 43 | 278 => 44 | n => n, fun | 0 => 0 | 3 => 3 | 4 => 4 | 5 => 5 | 9 => 9 | 20 => 20 | 21 => 21 | 37 => 31 | 46 => 44 | 51 => 52 | 70 => 61 | 72 => 63 | 75 => 71 | 80 => 68 | 127 => 78 | 164 => 81 | n => n, fun | n => n⟩
theorem Try.lays166 : Go.Proofs.Lays.n166 Try.prog Try.lays166_ren := {
  mixed := by kernel_rfl
  f166 := Try.func36.trans (congrArg some (by kernel_rfl))
  f240 := Try.func39.trans (congrArg some (by kernel_rfl))
  f276 := Try.func43.trans (congrArg some (by kernel_rfl))
  t0 := Try.underlying0
  a0 := Try.isAgg0
  z0 := Try.sizeOf0
  v0 := Try.zeroValue0
  t3 := Try.underlying3
  a3 := Try.isAgg3
  z3 := Try.sizeOf3
  v3 := Try.zeroValue3
  t4 := Try.underlying4
  a4 := Try.isAgg4
  z4 := Try.sizeOf4
  v4 := Try.zeroValue4
  t9 := Try.underlying9
  a9 := Try.isAgg9
  z9 := Try.sizeOf9
  v9 := Try.zeroValue9
  t20 := Try.underlying20
  a20 := Try.isAgg20
  z20 := Try.sizeOf20
  v20 := Try.zeroValue20
  t37 := Try.underlying31
  a37 := Try.isAgg31
  z37 := Try.sizeOf31
  v37 := Try.zeroValue31
  t70 := Try.underlying61
  a70 := Try.isAgg61
  z70 := Try.sizeOf61
  v70 := Try.zeroValue61
  t72 := Try.underlying63
  a72 := Try.isAgg63
  z72 := Try.sizeOf63
  v72 := Try.zeroValue63
  t75 := Try.underlying71
  a75 := Try.isAgg71
  z75 := Try.sizeOf71
  v75 := Try.zeroValue71
  t164 := Try.underlying81
  a164 := Try.isAgg81
  z164 := Try.sizeOf81
  v164 := Try.zeroValue81 }
theorem Try.Builder_Extra_166 : Builder.Extra Try.prog Try.lays166_ren := {
  sizeBuilder := by kernel_rfl
  liesBuilder := by kernel_rfl
  t5 := Try.underlying5
  a5 := Try.isAgg5
  z5 := Try.sizeOf5
  v5 := Try.zeroValue5
  infoByte := by kernel_rfl
  cellsByte := by kernel_rfl
  sizeByte := by kernel_rfl
  neB5 := by decide }
def Try.lays168_ren : Go.Shelf.Ren := ⟨fun | 166 => 36 | 167 => 34 | 168 => 37 | 169 => 32 | 240 => 39 | 242 => 41 | 276 => 43 | 278 => 44 | n => n, fun | 0 => 0 | 3 => 3 | 4 => 4 | 5 => 5 | 9 => 9 | 20 => 20 | 21 => 21 | 37 => 31 | 46 => 44 | 51 => 52 | 70 => 61 | 72 => 63 | 75 => 71 | 80 => 68 | 127 => 78 | 164 => 81 | n => n, fun | n => n⟩
theorem Try.lays168 : Go.Proofs.Lays.n168 Try.prog Try.lays168_ren := {
  mixed := by kernel_rfl
  f168 := Try.func37.trans (congrArg some (by kernel_rfl))
  f240 := Try.func39.trans (congrArg some (by kernel_rfl))
  f242 := Try.func41.trans (congrArg some (by kernel_rfl))
  f276 := Try.func43.trans (congrArg some (by kernel_rfl))
  f278 := Try.func44.trans (congrArg some (by kernel_rfl))
  t0 := Try.underlying0
  a0 := Try.isAgg0
  z0 := Try.sizeOf0
  v0 := Try.zeroValue0
  t3 := Try.underlying3
  a3 := Try.isAgg3
  z3 := Try.sizeOf3
  v3 := Try.zeroValue3
  t4 := Try.underlying4
  a4 := Try.isAgg4
  z4 := Try.sizeOf4
  v4 := Try.zeroValue4
  t5 := Try.underlying5
  a5 := Try.isAgg5
  z5 := Try.sizeOf5
  v5 := Try.zeroValue5
  t9 := Try.underlying9
  a9 := Try.isAgg9
  z9 := Try.sizeOf9
  v9 := Try.zeroValue9
  t20 := Try.underlying20
  a20 := Try.isAgg20
  z20 := Try.sizeOf20
  v20 := Try.zeroValue20
  t21 := Try.underlying21
  a21 := Try.isAgg21
  z21 := Try.sizeOf21
  v21 := Try.zeroValue21
  t37 := Try.underlying31
  a37 := Try.isAgg31
  z37 := Try.sizeOf31
  v37 := Try.zeroValue31
  t46 := Try.underlying44
  a46 := Try.isAgg44
  z46 := Try.sizeOf44
  v46 := Try.zeroValue44
  t51 := Try.underlying52
  a51 := Try.isAgg52
  z51 := Try.sizeOf52
  v51 := Try.zeroValue52
  t70 := Try.underlying61
  a70 := Try.isAgg61
  z70 := Try.sizeOf61
  v70 := Try.zeroValue61
  t72 := Try.underlying63
  a72 := Try.isAgg63
  z72 := Try.sizeOf63
  v72 := Try.zeroValue63
  t75 := Try.underlying71
  a75 := Try.isAgg71
  z75 := Try.sizeOf71
  v75 := Try.zeroValue71
  t164 := Try.underlying81
  a164 := Try.isAgg81
  z164 := Try.sizeOf81
  v164 := Try.zeroValue81 }
theorem Try.Builder_Extra_168 : Builder.Extra Try.prog Try.lays168_ren := {
  sizeBuilder := by kernel_rfl
  liesBuilder := by kernel_rfl
  t5 := Try.underlying5
  a5 := Try.isAgg5
  z5 := Try.sizeOf5
  v5 := Try.zeroValue5
  infoByte := by kernel_rfl
  cellsByte := by kernel_rfl
  sizeByte := by kernel_rfl
  neB5 := by decide }
def Try.lays169_ren : Go.Shelf.Ren := ⟨fun | 166 => 36 | 167 => 34 | 168 => 37 | 169 => 32 | 240 => 39 | 242 => 41 | 276 => 43 | 278 => 44 | n => n, fun | 0 => 0 | 3 => 3 | 4 => 4 | 5 => 5 | 9 => 9 | 20 => 20 | 21 => 21 | 37 => 31 | 46 => 44 | 51 => 52 | 70 => 61 | 72 => 63 | 75 => 71 | 80 => 68 | 127 => 78 | 164 => 81 | n => n, fun | n => n⟩
theorem Try.lays169 : Go.Proofs.Lays.n169 Try.prog Try.lays169_ren := {
  mixed := by kernel_rfl
  f169 := Try.func32.trans (congrArg some (by kernel_rfl))
  t0 := Try.underlying0
  a0 := Try.isAgg0
  z0 := Try.sizeOf0
  v0 := Try.zeroValue0
  t3 := Try.underlying3
  a3 := Try.isAgg3
  z3 := Try.sizeOf3
  v3 := Try.zeroValue3
  t9 := Try.underlying9
  a9 := Try.isAgg9
  z9 := Try.sizeOf9
  v9 := Try.zeroValue9
  t37 := Try.underlying31
  a37 := Try.isAgg31
  z37 := Try.sizeOf31
  v37 := Try.zeroValue31
  t70 := Try.underlying61
  a70 := Try.isAgg61
  z70 := Try.sizeOf61
  v70 := Try.zeroValue61
  t72 := Try.underlying63
  a72 := Try.isAgg63
  z72 := Try.sizeOf63
  v72 := Try.zeroValue63
  t127 := Try.underlying78
  a127 := Try.isAgg78
  z127 := Try.sizeOf78
  v127 := Try.zeroValue78 }
theorem Try.Builder_Extra_169 : Builder.Extra Try.prog Try.lays169_ren := {
  sizeBuilder := by kernel_rfl
  liesBuilder := by kernel_rfl
  t5 := Try.underlying5
  a5 := Try.isAgg5
  z5 := Try.sizeOf5
  v5 := Try.zeroValue5
  infoByte := by kernel_rfl
  cellsByte := by kernel_rfl
  sizeByte := by kernel_rfl
  neB5 := by decide }
open Go.RowKit in
theorem Try.Builder_WriteByte_k (B b : Nat) (bs : List Value) (c : Int) (w : World) (h : Lib.IsBuilderF 63 5 B b bs w) (hlen : bs.length + 1 ≤ 140737488355328) (hBw : B ≤ w.heap.size) :
    Calls Try.prog 34 #[.pointer (some ⟨b, 0, none⟩), .int .u8 c] w fun e w' => e = .returned .nilIface ∧ (Lib.BuilderAtF 63 5 B b (.pointer (some ⟨b, 0, none⟩)) (bs ++ [.int .u8 c]) w' ∧ Below B w w' ∧ Lib.OthersKept 5 (some b) w w') := Any.Builder_WriteByte_k Try.lays167 Try.Builder_Extra_167 B b bs c w h hlen hBw
open Go.RowKit in
theorem Try.Builder_WriteString_k (B b : Nat) (bs : List Value) (s : ByteArray) (w : World) (h : Lib.IsBuilderF 63 5 B b bs w) (hlen : bs.length + s.size ≤ 140737488355328) (hBw : B ≤ w.heap.size) :
    Calls Try.prog 36 #[.pointer (some ⟨b, 0, none⟩), .string s] w fun e w' => e = .returned (.tuple #[.int .i64 s.size, .nilIface]) ∧ (Lib.BuilderAtF 63 5 B b (.pointer (some ⟨b, 0, none⟩)) (bs ++ Lib.strCells s) w' ∧ Below B w w' ∧ Lib.OthersKept 5 (some b) w w') := Any.Builder_WriteString_k Try.lays166 Try.Builder_Extra_166 B b bs s w h hlen hBw
open Go.RowKit in
theorem Try.Builder_WriteRune_k (B b : Nat) (bs : List Value) (r : Int) (hr0 : -2147483648 ≤ r) (hr1 : r ≤ 2147483647) (w : World) (h : Lib.IsBuilderF 63 5 B b bs w) (hlen : bs.length + 4 ≤ 140737488355328) (hBw : B ≤ w.heap.size) :
    Calls Try.prog 37 #[.pointer (some ⟨b, 0, none⟩), .int .i32 r] w fun e w' => e = .returned (.tuple #[.int .i64 (Lib.runeCells r).length, .nilIface]) ∧ (Lib.BuilderAtF 63 5 B b (.pointer (some ⟨b, 0, none⟩)) (bs ++ Lib.runeCells r) w' ∧ Below B w w' ∧ Lib.OthersKept 5 (some b) w w') := Any.Builder_WriteRune_k Try.lays168 Try.Builder_Extra_168 B b bs r hr0 hr1 w h hlen hBw
open Go.RowKit in
theorem Try.Builder_String_any_k (B b : Nat) (l : List UInt8) (w : World) (h : Lib.IsBuilderF 63 5 B b (Lib.byteCells l) w) (hBw : B ≤ w.heap.size) :
    Calls Try.prog 32 #[.pointer (some ⟨b, 0, none⟩)] w fun e w' => e = .returned (.string ⟨l.toArray⟩) ∧ (Lib.IsBuilderF 63 5 B b (Lib.byteCells l) w' ∧ Below B w w' ∧ Lib.OthersKept 5 (some b) w w') := Any.Builder_String_any_k Try.lays169 Try.Builder_Extra_169 B b l w h hBw
end Go.Proofs
