import Derived.Shelf.Strings.Builder1
import Derived.Shelf.Small.Utf8
import Derived.Shelf.Small.Strs
import Derived.Shelf.Small.Wraps
import Derived.Shelf.Strings.BuilderF
import Derived.Shelf.Strings.BuilderK
import Derived.Shelf.Strings.Search1
import Derived.Shelf.Strings.Prefix
import Derived.Shelf.Strings.Runes
import Derived.Shelf.Strings.IndexAny
import Derived.Shelf.Strings.AsciiSet
import Derived.Shelf.Strings.IndexAnyAll
import Derived.Test.Qxb6601067aProg
namespace Go.Proofs
open Go.Shelf
def Try.lays169_ren : Go.Shelf.Ren := ⟨fun | 169 => 29 | n => n, fun | 70 => 32 | 9 => 9 | 0 => 0 | 72 => 34 | 37 => 30 | 127 => 52 | 3 => 3 | 5 => 5 | n => n, fun | n => n⟩
theorem Try.lays169 : Go.Proofs.Lays.n169 Try.prog Try.lays169_ren := {
  mixed := by kernel_rfl
  f169 := Try.func29.trans (congrArg some (by kernel_rfl))
  t0 := Try.underlying0
  a0 := Try.isAgg0
  z0 := Try.sizeOf0
  v0 := Try.zeroValue0
  t3 := Try.underlying3
  a3 := Try.isAgg3
  z3 := Try.sizeOf3
  v3 := Try.zeroValue3
  t9 := Try.underlying9
  a9 := Try.isAgg9
  z9 := Try.sizeOf9
  v9 := Try.zeroValue9
  t37 := Try.underlying30
  a37 := Try.isAgg30
  z37 := Try.sizeOf30
  v37 := Try.zeroValue30
  t70 := Try.underlying32
  a70 := Try.isAgg32
  z70 := Try.sizeOf32
  v70 := Try.zeroValue32
  t72 := Try.underlying34
  a72 := Try.isAgg34
  z72 := Try.sizeOf34
  v72 := Try.zeroValue34
  t127 := Try.underlying52
  a127 := Try.isAgg52
  z127 := Try.sizeOf52
  v127 := Try.zeroValue52 }
theorem Try.Builder_Extra_169 : Builder.Extra Try.prog Try.lays169_ren := {
  sizeBuilder := by kernel_rfl
  liesBuilder := by kernel_rfl
  t5 := Try.underlying5
  a5 := Try.isAgg5
  z5 := Try.sizeOf5
  v5 := Try.zeroValue5
  infoByte := by kernel_rfl
  cellsByte := by kernel_rfl
  sizeByte := by kernel_rfl
  neB5 := by decide }
open Go.RowKit in
theorem Try.Builder_String_any (B b : Nat) (l : List UInt8) (w : World) (h : Lib.IsBuilder 34 5 B b (Lib.byteCells l) w) (hBw : B ≤ w.heap.size) :
    Calls Try.prog 29 #[.pointer (some ⟨b, 0, none⟩)] w fun e w' => e = .returned (.string ⟨l.toArray⟩) ∧ Below B w w' := Any.Builder_String_any Try.lays169 Try.Builder_Extra_169 B b l w h hBw
def Try.lays119_ren : Go.Shelf.Ren := ⟨fun | 119 => 41 | n => n, fun | 21 => 21 | 4 => 4 | n => n, fun | n => n⟩
theorem Try.lays119 : Go.Proofs.Lays.n119 Try.prog Try.lays119_ren := {
  mixed := by kernel_rfl
  f119 := Try.func41.trans (congrArg some (by kernel_rfl))
  t4 := Try.underlying4
  a4 := Try.isAgg4
  z4 := Try.sizeOf4
  v4 := Try.zeroValue4
  t21 := Try.underlying21
  a21 := Try.isAgg21
  z21 := Try.sizeOf21
  v21 := Try.zeroValue21 }
theorem Try.utf8_ValidRune (r : Int) (w : World) :
    Calls Try.prog 41 #[.int .i32 r] w fun e w' => e = .returned (.bool (Lib.validRune r)) ∧ w' = w := Any.utf8_ValidRune Try.lays119 r w
def Try.lays137_ren : Go.Shelf.Ren := ⟨fun | 137 => 30 | 217 => 39 | 266 => 46 | n => n, fun | 9 => 9 | 5 => 5 | 3 => 3 | n => n, fun | n => n⟩
theorem Try.lays137 : Go.Proofs.Lays.n137 Try.prog Try.lays137_ren := {
  mixed := by kernel_rfl
  f137 := Try.func30.trans (congrArg some (by kernel_rfl))
  f217 := Try.func39.trans (congrArg some (by kernel_rfl))
  f266 := Try.func46.trans (congrArg some (by kernel_rfl))
  t3 := Try.underlying3
  a3 := Try.isAgg3
  z3 := Try.sizeOf3
  v3 := Try.zeroValue3
  t5 := Try.underlying5
  a5 := Try.isAgg5
  z5 := Try.sizeOf5
  v5 := Try.zeroValue5
  t9 := Try.underlying9
  a9 := Try.isAgg9
  z9 := Try.sizeOf9
  v9 := Try.zeroValue9 }
open Go.RowKit in
theorem Try.strings_IndexByte (s : ByteArray) (c : Int) (w : World) :
    Calls Try.prog 30 #[.string s, .int .u8 c] w fun e w' => e = .returned (.int .i64 (Lib.indexByte s.data.toList c.toNat.toUInt8)) ∧ w' = w := Any.strings_IndexByte Try.lays137 s c w
def Try.lays103_ren : Go.Shelf.Ren := ⟨fun | 103 => 37 | 210 => 45 | 206 => 40 | n => n, fun | 9 => 9 | 4 => 4 | 24 => 49 | 3 => 3 | n => n, fun | n => n⟩
theorem Try.lays103 : Go.Proofs.Lays.n103 Try.prog Try.lays103_ren := {
  mixed := by kernel_rfl
  f103 := Try.func37.trans (congrArg some (by kernel_rfl))
  f206 := Try.func40.trans (congrArg some (by kernel_rfl))
  f210 := Try.func45.trans (congrArg some (by kernel_rfl))
  t3 := Try.underlying3
  a3 := Try.isAgg3
  z3 := Try.sizeOf3
  v3 := Try.zeroValue3
  t4 := Try.underlying4
  a4 := Try.isAgg4
  z4 := Try.sizeOf4
  v4 := Try.zeroValue4
  t9 := Try.underlying9
  a9 := Try.isAgg9
  z9 := Try.sizeOf9
  v9 := Try.zeroValue9
  t24 := Try.underlying49
  a24 := Try.isAgg49
  z24 := Try.sizeOf49
  v24 := Try.zeroValue49 }
open Go.RowKit in
theorem Try.strings_CutPrefix (s p : ByteArray) (w : World) :
    Calls Try.prog 37 #[.string s, .string p] w fun e w' => e = .returned (.tuple #[.string ⟨(Lib.trimPrefix s.data.toList p.data.toList).toArray⟩, .bool (Lib.hasPrefix s.data.toList p.data.toList)]) ∧ w' = w := Any.strings_CutPrefix Try.lays103 s p w
def Try.lays152_ren : Go.Shelf.Ren := ⟨fun | 152 => 32 | 137 => 30 | 119 => 41 | 224 => 42 | 225 => 43 | 217 => 39 | 266 => 46 | n => n, fun | 9 => 9 | 21 => 21 | 3 => 3 | 4 => 4 | 5 => 5 | 0 => 0 | 46 => 55 | n => n, fun | n => n⟩
theorem Try.lays152 : Go.Proofs.Lays.n152 Try.prog Try.lays152_ren := {
  mixed := by kernel_rfl
  f119 := Try.func41.trans (congrArg some (by kernel_rfl))
  f137 := Try.func30.trans (congrArg some (by kernel_rfl))
  f152 := Try.func32.trans (congrArg some (by kernel_rfl))
  f217 := Try.func39.trans (congrArg some (by kernel_rfl))
  f224 := Try.func42.trans (congrArg some (by kernel_rfl))
  f225 := Try.func43.trans (congrArg some (by kernel_rfl))
  f266 := Try.func46.trans (congrArg some (by kernel_rfl))
  t0 := Try.underlying0
  a0 := Try.isAgg0
  z0 := Try.sizeOf0
  v0 := Try.zeroValue0
  t3 := Try.underlying3
  a3 := Try.isAgg3
  z3 := Try.sizeOf3
  v3 := Try.zeroValue3
  t4 := Try.underlying4
  a4 := Try.isAgg4
  z4 := Try.sizeOf4
  v4 := Try.zeroValue4
  t5 := Try.underlying5
  a5 := Try.isAgg5
  z5 := Try.sizeOf5
  v5 := Try.zeroValue5
  t9 := Try.underlying9
  a9 := Try.isAgg9
  z9 := Try.sizeOf9
  v9 := Try.zeroValue9
  t21 := Try.underlying21
  a21 := Try.isAgg21
  z21 := Try.sizeOf21
  v21 := Try.zeroValue21
  t46 := Try.underlying55
  a46 := Try.isAgg55
  z46 := Try.sizeOf55
  v46 := Try.zeroValue55 }
open Go.RowKit Go.Lib in
theorem Try.strings_IndexRune_ascii (s : ByteArray) (r : Int) (w : World) (h0 : 0 ≤ r) (h1 : r < 128) :
    Calls Try.prog 32 #[.string s, .int .i32 r] w fun e w' => e = .returned (.int .i64 (Lib.indexByte s.data.toList r.toNat.toUInt8)) ∧ w' = w := Any.strings_IndexRune_ascii Try.lays152 s r w h0 h1
def Try.lays151_ren : Go.Shelf.Ren := ⟨fun | 151 => 38 | 152 => 32 | 137 => 30 | 119 => 41 | 224 => 42 | 225 => 43 | 217 => 39 | 266 => 46 | n => n, fun | 9 => 9 | 21 => 21 | 4 => 4 | 3 => 3 | 5 => 5 | 0 => 0 | 46 => 55 | n => n, fun | n => n⟩
theorem Try.lays151 : Go.Proofs.Lays.n151 Try.prog Try.lays151_ren := {
  mixed := by kernel_rfl
  f119 := Try.func41.trans (congrArg some (by kernel_rfl))
  f137 := Try.func30.trans (congrArg some (by kernel_rfl))
  f151 := Try.func38.trans (congrArg some (by kernel_rfl))
  f152 := Try.func32.trans (congrArg some (by kernel_rfl))
  f217 := Try.func39.trans (congrArg some (by kernel_rfl))
  f224 := Try.func42.trans (congrArg some (by kernel_rfl))
  f225 := Try.func43.trans (congrArg some (by kernel_rfl))
  f266 := Try.func46.trans (congrArg some (by kernel_rfl))
  t0 := Try.underlying0
  a0 := Try.isAgg0
  z0 := Try.sizeOf0
  v0 := Try.zeroValue0
  t3 := Try.underlying3
  a3 := Try.isAgg3
  z3 := Try.sizeOf3
  v3 := Try.zeroValue3
  t4 := Try.underlying4
  a4 := Try.isAgg4
  z4 := Try.sizeOf4
  v4 := Try.zeroValue4
  t5 := Try.underlying5
  a5 := Try.isAgg5
  z5 := Try.sizeOf5
  v5 := Try.zeroValue5
  t9 := Try.underlying9
  a9 := Try.isAgg9
  z9 := Try.sizeOf9
  v9 := Try.zeroValue9
  t21 := Try.underlying21
  a21 := Try.isAgg21
  z21 := Try.sizeOf21
  v21 := Try.zeroValue21
  t46 := Try.underlying55
  a46 := Try.isAgg55
  z46 := Try.sizeOf55
  v46 := Try.zeroValue55 }
open Go.RowKit Go.Lib in
theorem Try.strings_ContainsRune_ascii (s : ByteArray) (r : Int) (w : World) (h0 : 0 ≤ r) (h1 : r < 128) :
    Calls Try.prog 38 #[.string s, .int .i32 r] w fun e w' => e = .returned (.bool (decide (0 ≤ Lib.indexByte s.data.toList r.toNat.toUInt8))) ∧ w' = w := Any.strings_ContainsRune_ascii Try.lays151 s r w h0 h1
def Try.lays226_ren : Go.Shelf.Ren := ⟨fun | 226 => 33 | n => n, fun | 3 => 3 | 4 => 4 | n => n, fun | n => n⟩
theorem Try.lays226 : Go.Proofs.Lays.n226 Try.prog Try.lays226_ren := {
  mixed := by kernel_rfl
  f226 := Try.func33.trans (congrArg some (by kernel_rfl))
  t3 := Try.underlying3
  a3 := Try.isAgg3
  z3 := Try.sizeOf3
  v3 := Try.zeroValue3
  t4 := Try.underlying4
  a4 := Try.isAgg4
  z4 := Try.sizeOf4
  v4 := Try.zeroValue4 }
open Go.RowKit Go.Lib in
theorem Try.strings_shouldUseASCIISet (n : Int) (w : World) :
    Calls Try.prog 33 #[.int .i64 n] w fun e w' => e = .returned (.bool (decide (8 < n))) ∧ w' = w := Any.strings_shouldUseASCIISet Try.lays226 n w
def Try.lays153_ren : Go.Shelf.Ren := ⟨fun | 153 => 25 | 152 => 32 | 226 => 33 | 227 => 34 | 228 => 35 | 137 => 30 | 119 => 41 | 224 => 42 | 225 => 43 | 217 => 39 | 266 => 46 | n => n, fun | 9 => 9 | 3 => 3 | 4 => 4 | 5 => 5 | 21 => 21 | 117 => 46 | 116 => 45 | 0 => 0 | 46 => 55 | 124 => 56 | n => n, fun | n => n⟩
theorem Try.lays153 : Go.Proofs.Lays.n153 Try.prog Try.lays153_ren := {
  mixed := by kernel_rfl
  f119 := Try.func41.trans (congrArg some (by kernel_rfl))
  f137 := Try.func30.trans (congrArg some (by kernel_rfl))
  f152 := Try.func32.trans (congrArg some (by kernel_rfl))
  f153 := Try.func25.trans (congrArg some (by kernel_rfl))
  f217 := Try.func39.trans (congrArg some (by kernel_rfl))
  f224 := Try.func42.trans (congrArg some (by kernel_rfl))
  f225 := Try.func43.trans (congrArg some (by kernel_rfl))
  f226 := Try.func33.trans (congrArg some (by kernel_rfl))
  f227 := Try.func34.trans (congrArg some (by kernel_rfl))
  f228 := Try.func35.trans (congrArg some (by kernel_rfl))
  f266 := Try.func46.trans (congrArg some (by kernel_rfl))
  t0 := Try.underlying0
  a0 := Try.isAgg0
  z0 := Try.sizeOf0
  v0 := Try.zeroValue0
  t3 := Try.underlying3
  a3 := Try.isAgg3
  z3 := Try.sizeOf3
  v3 := Try.zeroValue3
  t4 := Try.underlying4
  a4 := Try.isAgg4
  z4 := Try.sizeOf4
  v4 := Try.zeroValue4
  t5 := Try.underlying5
  a5 := Try.isAgg5
  z5 := Try.sizeOf5
  v5 := Try.zeroValue5
  t9 := Try.underlying9
  a9 := Try.isAgg9
  z9 := Try.sizeOf9
  v9 := Try.zeroValue9
  t21 := Try.underlying21
  a21 := Try.isAgg21
  z21 := Try.sizeOf21
  v21 := Try.zeroValue21
  t46 := Try.underlying55
  a46 := Try.isAgg55
  z46 := Try.sizeOf55
  v46 := Try.zeroValue55
  t116 := Try.underlying45
  a116 := Try.isAgg45
  z116 := Try.sizeOf45
  t117 := Try.underlying46
  a117 := Try.isAgg46
  z117 := Try.sizeOf46
  v117 := Try.zeroValue46
  t124 := Try.underlying56
  a124 := Try.isAgg56
  z124 := Try.sizeOf56
  v124 := Try.zeroValue56 }
open Go.RowKit Go.Lib in
theorem Try.strings_IndexAny_long (hv116 : ∀ w, (zeroValue 45).run Try.prog w = .ok (.agg (Array.replicate 256 (.bool false))) w) (s chars : ByteArray) (w : World) (h2 : 2 ≤ chars.size) (h8 : 8 < s.size) (hs : s.size < 4294967281) (hcs : chars.size < 4294967281) (hascii : ∀ (j : Nat) b, chars.data.toList[j]? = some b → b.toNat < 128) :
    Calls Try.prog 25 #[.string s, .string chars] w fun e w' => e = .returned (.int .i64 (Lib.indexAny s.data.toList chars.data.toList)) ∧ w' = ((w.alloc (.cells (Lib.setCells chars.data.toList) 45)).alloc (.cells (Lib.setCells chars.data.toList) 45)) := Any.strings_IndexAny_long Try.lays153 hv116 (by kernel_rfl) s chars w h2 h8 hs hcs hascii
end Go.Proofs
