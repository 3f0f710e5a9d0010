import Derived.Test.Qxb6601067aShelf
namespace Go.Proofs
open Go.Shelf
def Try.lays166_ren : Go.Shelf.Ren := ⟨fun | 166 => 26 | 240 => 36 | 276 => 44 | n => n, fun | 22 => 27 | 24 => 49 | 25 => 50 | 27 => 35 | 37 => 30 | 40 => 53 | 41 => 48 | 46 => 55 | 51 => 65 | 55 => 25 | 63 => 51 | 64 => 42 | 66 => 23 | 69 => 28 | 70 => 32 | 71 => 33 | 72 => 34 | 74 => 36 | 75 => 37 | 76 => 38 | 77 => 39 | 78 => 40 | 80 => 41 | 81 => 64 | 104 => 29 | 111 => 43 | 114 => 54 | 115 => 44 | 116 => 45 | 117 => 46 | 118 => 47 | 124 => 56 | 127 => 52 | 164 => 57 | 165 => 58 | 238 => 59 | 239 => 60 | 240 => 61 | 241 => 62 | 242 => 63 | 243 => 66 | 244 => 67 | 245 => 68 | 246 => 69 | 247 => 70 | 248 => 71 | 249 => 72 | n => n, fun | n => n⟩
theorem Try.lays166 : Go.Proofs.Lays.n166 Try.prog Try.lays166_ren := {
  mixed := by kernel_rfl
  f166 := Try.func26.trans (congrArg some (by kernel_rfl))
  f240 := Try.func36.trans (congrArg some (by kernel_rfl))
  f276 := Try.func44.trans (congrArg some (by kernel_rfl))
  t0 := Try.underlying0
  a0 := Try.isAgg0
  z0 := Try.sizeOf0
  v0 := Try.zeroValue0
  t3 := Try.underlying3
  a3 := Try.isAgg3
  z3 := Try.sizeOf3
  v3 := Try.zeroValue3
  t4 := Try.underlying4
  a4 := Try.isAgg4
  z4 := Try.sizeOf4
  v4 := Try.zeroValue4
  t9 := Try.underlying9
  a9 := Try.isAgg9
  z9 := Try.sizeOf9
  v9 := Try.zeroValue9
  t20 := Try.underlying20
  a20 := Try.isAgg20
  z20 := Try.sizeOf20
  v20 := Try.zeroValue20
  t37 := Try.underlying30
  a37 := Try.isAgg30
  z37 := Try.sizeOf30
  v37 := Try.zeroValue30
  t70 := Try.underlying32
  a70 := Try.isAgg32
  z70 := Try.sizeOf32
  v70 := Try.zeroValue32
  t72 := Try.underlying34
  a72 := Try.isAgg34
  z72 := Try.sizeOf34
  v72 := Try.zeroValue34
  t75 := Try.underlying37
  a75 := Try.isAgg37
  z75 := Try.sizeOf37
  v75 := Try.zeroValue37
  t164 := Try.underlying57
  a164 := Try.isAgg57
  z164 := Try.sizeOf57
  v164 := Try.zeroValue57 }
def Try.lays167_ren : Go.Shelf.Ren := ⟨fun | 167 => 28 | 240 => 36 | 276 => 44 | n => n, fun | 22 => 27 | 24 => 49 | 25 => 50 | 27 => 35 | 37 => 30 | 40 => 53 | 41 => 48 | 46 => 55 | 51 => 65 | 55 => 25 | 63 => 51 | 64 => 42 | 66 => 23 | 69 => 28 | 70 => 32 | 71 => 33 | 72 => 34 | 74 => 36 | 75 => 37 | 76 => 38 | 77 => 39 | 78 => 40 | 80 => 41 | 81 => 64 | 104 => 29 | 111 => 43 | 114 => 54 | 115 => 44 | 116 => 45 | 117 => 46 | 118 => 47 | 124 => 56 | 127 => 52 | 164 => 57 | 165 => 58 | 238 => 59 | 239 => 60 | 240 => 61 | 241 => 62 | 242 => 63 | 243 => 66 | 244 => 67 | 245 => 68 | 246 => 69 | 247 => 70 | 248 => 71 | 249 => 72 | n => n, fun | n => n⟩
theorem Try.lays167 : Go.Proofs.Lays.n167 Try.prog Try.lays167_ren := {
  mixed := by kernel_rfl
  f167 := Try.func28.trans (congrArg some (by kernel_rfl))
  f240 := Try.func36.trans (congrArg some (by kernel_rfl))
  f276 := Try.func44.trans (congrArg some (by kernel_rfl))
  t0 := Try.underlying0
  a0 := Try.isAgg0
  z0 := Try.sizeOf0
  v0 := Try.zeroValue0
  t4 := Try.underlying4
  a4 := Try.isAgg4
  z4 := Try.sizeOf4
  v4 := Try.zeroValue4
  t5 := Try.underlying5
  a5 := Try.isAgg5
  z5 := Try.sizeOf5
  v5 := Try.zeroValue5
  t9 := Try.underlying9
  a9 := Try.isAgg9
  z9 := Try.sizeOf9
  v9 := Try.zeroValue9
  t20 := Try.underlying20
  a20 := Try.isAgg20
  z20 := Try.sizeOf20
  v20 := Try.zeroValue20
  t37 := Try.underlying30
  a37 := Try.isAgg30
  z37 := Try.sizeOf30
  v37 := Try.zeroValue30
  t70 := Try.underlying32
  a70 := Try.isAgg32
  z70 := Try.sizeOf32
  v70 := Try.zeroValue32
  t72 := Try.underlying34
  a72 := Try.isAgg34
  z72 := Try.sizeOf34
  v72 := Try.zeroValue34
  t75 := Try.underlying37
  a75 := Try.isAgg37
  z75 := Try.sizeOf37
  v75 := Try.zeroValue37
  t164 := Try.underlying57
  a164 := Try.isAgg57
  z164 := Try.sizeOf57
  v164 := Try.zeroValue57 }
theorem Try.Builder_Extra_166 : Builder.Extra Try.prog Try.lays166_ren := {
  sizeBuilder := by kernel_rfl
  liesBuilder := by kernel_rfl
  t5 := Try.underlying5
  a5 := Try.isAgg5
  z5 := Try.sizeOf5
  v5 := Try.zeroValue5
  infoByte := by kernel_rfl
  cellsByte := by kernel_rfl
  sizeByte := by kernel_rfl
  neB5 := by decide }
theorem Try.Builder_Extra_167 : Builder.Extra Try.prog Try.lays167_ren := {
  sizeBuilder := by kernel_rfl
  liesBuilder := by kernel_rfl
  t5 := Try.underlying5
  a5 := Try.isAgg5
  z5 := Try.sizeOf5
  v5 := Try.zeroValue5
  infoByte := by kernel_rfl
  cellsByte := by kernel_rfl
  sizeByte := by kernel_rfl
  neB5 := by decide }
open Go.RowKit in
theorem Try.Builder_WriteByte (B b : Nat) (bs : List Value) (c : Int) (w : World) (h : Lib.IsBuilder 34 5 B b bs w) (hlen : bs.length + 1 ≤ 140737488355328) (hBw : B ≤ w.heap.size) :
    Calls Try.prog 28 #[.pointer (some ⟨b, 0, none⟩), .int .u8 c] w fun e w' => e = .returned .nilIface ∧ (Lib.BuilderAt 34 5 B b (.pointer (some ⟨b, 0, none⟩)) (bs ++ [.int .u8 c]) w' ∧ Below B w w') := Any.Builder_WriteByte Try.lays167 Try.Builder_Extra_167 B b bs c w h hlen hBw
open Go.RowKit in
theorem Try.Builder_WriteString (B b : Nat) (bs : List Value) (s : ByteArray) (w : World) (h : Lib.IsBuilder 34 5 B b bs w) (hlen : bs.length + s.size ≤ 140737488355328) (hBw : B ≤ w.heap.size) :
    Calls Try.prog 26 #[.pointer (some ⟨b, 0, none⟩), .string s] w fun e w' => e = .returned (.tuple #[.int .i64 s.size, .nilIface]) ∧ (Lib.BuilderAt 34 5 B b (.pointer (some ⟨b, 0, none⟩)) (bs ++ Lib.strCells s) w' ∧ Below B w w') := Any.Builder_WriteString Try.lays166 Try.Builder_Extra_166 B b bs s w h hlen hBw
end Go.Proofs
