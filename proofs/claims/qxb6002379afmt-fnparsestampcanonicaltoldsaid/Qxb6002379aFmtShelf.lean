import Derived.Shelf.Strconv.Itoa0
import Derived.Shelf.Strconv.Itoa1
import Derived.Shelf.LaysM
import Derived.Shelf.Strconv.Itoa2
import Derived.Shelf.Strings.Search2
import Derived.Test.Qxb6002379aFmtProg
namespace Go.Proofs
open Go.Shelf
def Tryf.lays283_ren : Go.Shelf.Ren := ⟨fun | 283 => 42 | n => n, fun | 3 => 3 | 9 => 9 | 4 => 4 | n => n, fun | n => n⟩
theorem Tryf.lays283 : Go.Proofs.Lays.n283 Tryf.prog Tryf.lays283_ren := {
  mixed := by kernel_rfl
  f283 := Tryf.func42.trans (congrArg some (by kernel_rfl))
  t3 := Tryf.underlying3
  a3 := Tryf.isAgg3
  z3 := Tryf.sizeOf3
  v3 := Tryf.zeroValue3
  t4 := Tryf.underlying4
  a4 := Tryf.isAgg4
  z4 := Tryf.sizeOf4
  v4 := Tryf.zeroValue4
  t9 := Tryf.underlying9
  a9 := Tryf.isAgg9
  z9 := Tryf.sizeOf9
  v9 := Tryf.zeroValue9 }
open Go.Lib in
theorem Tryf.internal_strconv_small (i : Nat) (h : i < 100) (w : World) :
    Calls Tryf.prog 42 #[.int .i64 i] w fun e w' => e = .returned (.string ⟨(Lib.decDigits i).toArray⟩) ∧ w' = w := Any.internal_strconv_small Tryf.lays283 i h w
def Tryf.laysM284_ren : Go.Shelf.Ren := ⟨fun | 284 => 43 | 129 => 49 | 317 => 48 | 318 => 50 | n => n, fun | 53 => 22 | 3 => 3 | 212 => 74 | 0 => 0 | 4 => 4 | 46 => 63 | 5 => 5 | 9 => 9 | n => n, fun | 17 => 1 | n => n⟩
theorem Tryf.laysM284 : Go.Proofs.LaysM.n284 Tryf.prog Tryf.laysM284_ren := {
  mixed := by kernel_rfl
  f129 := Tryf.func49.trans (congrArg some (by kernel_rfl))
  f284 := Tryf.func43.trans (congrArg some (by kernel_rfl))
  f317 := Tryf.func48.trans (congrArg some (by kernel_rfl))
  f318 := Tryf.func50.trans (congrArg some (by kernel_rfl))
  t0 := Tryf.underlying0
  a0 := Tryf.isAgg0
  z0 := Tryf.sizeOf0
  v0 := Tryf.zeroValue0
  t3 := Tryf.underlying3
  a3 := Tryf.isAgg3
  z3 := Tryf.sizeOf3
  v3 := Tryf.zeroValue3
  t4 := Tryf.underlying4
  a4 := Tryf.isAgg4
  z4 := Tryf.sizeOf4
  v4 := Tryf.zeroValue4
  t5 := Tryf.underlying5
  a5 := Tryf.isAgg5
  z5 := Tryf.sizeOf5
  v5 := Tryf.zeroValue5
  t9 := Tryf.underlying9
  a9 := Tryf.isAgg9
  z9 := Tryf.sizeOf9
  v9 := Tryf.zeroValue9
  t46 := Tryf.underlying63
  a46 := Tryf.isAgg63
  z46 := Tryf.sizeOf63
  v46 := Tryf.zeroValue63
  t53 := Tryf.underlying22
  a53 := Tryf.isAgg22
  z53 := Tryf.sizeOf22
  v53 := Tryf.zeroValue22
  t212 := Tryf.underlying74
  a212 := Tryf.isAgg74
  z212 := Tryf.sizeOf74
  v212 := Tryf.zeroValue74
  g17 := by kernel_rfl
  i0 := by kernel_rfl
  i3 := by kernel_rfl
  i4 := by kernel_rfl
  i5 := by kernel_rfl
  i9 := by kernel_rfl
  i46 := by kernel_rfl
  i53 := by kernel_rfl
  i212 := by kernel_rfl
  m17 := by kernel_rfl }
def Tryf.lays285_ren : Go.Shelf.Ren := ⟨fun | 285 => 44 | n => n, fun | 37 => 37 | 53 => 22 | 3 => 3 | 4 => 4 | 51 => 70 | 9 => 9 | 5 => 5 | 0 => 0 | n => n, fun | n => n⟩
theorem Tryf.lays285 : Go.Proofs.Lays.n285 Tryf.prog Tryf.lays285_ren := {
  mixed := by kernel_rfl
  f285 := Tryf.func44.trans (congrArg some (by kernel_rfl))
  t0 := Tryf.underlying0
  a0 := Tryf.isAgg0
  z0 := Tryf.sizeOf0
  v0 := Tryf.zeroValue0
  t3 := Tryf.underlying3
  a3 := Tryf.isAgg3
  z3 := Tryf.sizeOf3
  v3 := Tryf.zeroValue3
  t4 := Tryf.underlying4
  a4 := Tryf.isAgg4
  z4 := Tryf.sizeOf4
  v4 := Tryf.zeroValue4
  t5 := Tryf.underlying5
  a5 := Tryf.isAgg5
  z5 := Tryf.sizeOf5
  v5 := Tryf.zeroValue5
  t9 := Tryf.underlying9
  a9 := Tryf.isAgg9
  z9 := Tryf.sizeOf9
  v9 := Tryf.zeroValue9
  t37 := Tryf.underlying37
  a37 := Tryf.isAgg37
  z37 := Tryf.sizeOf37
  v37 := Tryf.zeroValue37
  t51 := Tryf.underlying70
  a51 := Tryf.isAgg70
  z51 := Tryf.sizeOf70
  v51 := Tryf.zeroValue70
  t53 := Tryf.underlying22
  a53 := Tryf.isAgg22
  z53 := Tryf.sizeOf22
  v53 := Tryf.zeroValue22 }
open Go.RowKit Go.Sort Go.Lib in
theorem Tryf.internal_strconv_formatBase10 (blk off cap : Nat) (u : Nat) (d : Array UInt8) (w : World) (hH : Holds (fun (b : UInt8) => Value.int .u8 (b.toNat : Int)) w blk off d) (hu : u < 10 ^ d.size) (hu64 : u < 18446744073709551616) (hsz : d.size < 4611686018427387904) :
    Calls Tryf.prog 44 #[.slice (some ⟨blk, off, none⟩) d.size cap, .int .u64 u] w fun e w' =>
      e = .returned (.tuple #[]) ∧ ∃ (n v' : Nat) (dk : Array UInt8), w' = (putRow (fun (b : UInt8) => Value.int .u8 (b.toNat : Int)) w blk off dk).drewN n ∧ FmtInv d.size u 0 v' dk := Any.internal_strconv_formatBase10 Tryf.lays285 blk off cap u d w hH hu hu64 hsz
def Tryf.lays219_ren : Go.Shelf.Ren := ⟨fun | 219 => 36 | 217 => 38 | 225 => 39 | 224 => 40 | 267 => 41 | 266 => 46 | 314 => 47 | n => n, fun | 9 => 9 | 3 => 3 | 4 => 4 | 5 => 5 | 46 => 63 | 146 => 71 | 51 => 70 | n => n, fun | 1 => 0 | n => n⟩
theorem Tryf.lays219 : Go.Proofs.Lays.n219 Tryf.prog Tryf.lays219_ren := {
  mixed := by kernel_rfl
  f217 := Tryf.func38.trans (congrArg some (by kernel_rfl))
  f219 := Tryf.func36.trans (congrArg some (by kernel_rfl))
  f224 := Tryf.func40.trans (congrArg some (by kernel_rfl))
  f225 := Tryf.func39.trans (congrArg some (by kernel_rfl))
  f266 := Tryf.func46.trans (congrArg some (by kernel_rfl))
  f267 := Tryf.func41.trans (congrArg some (by kernel_rfl))
  f314 := Tryf.func47.trans (congrArg some (by kernel_rfl))
  t3 := Tryf.underlying3
  a3 := Tryf.isAgg3
  z3 := Tryf.sizeOf3
  v3 := Tryf.zeroValue3
  t4 := Tryf.underlying4
  a4 := Tryf.isAgg4
  z4 := Tryf.sizeOf4
  v4 := Tryf.zeroValue4
  t5 := Tryf.underlying5
  a5 := Tryf.isAgg5
  z5 := Tryf.sizeOf5
  v5 := Tryf.zeroValue5
  t9 := Tryf.underlying9
  a9 := Tryf.isAgg9
  z9 := Tryf.sizeOf9
  v9 := Tryf.zeroValue9
  t46 := Tryf.underlying63
  a46 := Tryf.isAgg63
  z46 := Tryf.sizeOf63
  v46 := Tryf.zeroValue63
  t51 := Tryf.underlying70
  a51 := Tryf.isAgg70
  z51 := Tryf.sizeOf70
  v51 := Tryf.zeroValue70
  t146 := Tryf.underlying71
  a146 := Tryf.isAgg71
  z146 := Tryf.sizeOf71
  v146 := Tryf.zeroValue71
  g1 := by kernel_rfl }
open Go.RowKit Go.Lib in
theorem Tryf.stringslite_Index_one (s : ByteArray) (c : UInt8) (w : World) :
    Calls Tryf.prog 36 #[.string s, .string ⟨#[c]⟩] w fun e w' => e = .returned (.int .i64 (Lib.indexByte s.data.toList c)) ∧ w' = w := Any.stringslite_Index_one Tryf.lays219 s c w
end Go.Proofs
