/- The shelf's contracts at this dump, in plain words (written by the kit's lay-shelf and lay-plain tools for this program; what the proof does not use struck). -/
import Derived.Shelf.LaysM
import Derived.Shelf.Strconv.Itoa0
import Derived.Shelf.Strconv.Itoa1
import Derived.Shelf.Strconv.Itoa2
import Derived.Test.YbulkayguDoorProg
namespace Go.Proofs
open Go.Shelf
def Ybad.lays129_ren : Go.Shelf.Ren := ⟨fun | 129 => 25 | n => n, fun | 53 => 37 | 3 => 3 | 4 => 4 | 46 => 41 | 5 => 5 | 9 => 9 | n => n, fun | n => n⟩
theorem Ybad.lays129 : Go.Proofs.Lays.n129 Ybad.prog Ybad.lays129_ren := {
  mixed := by kernel_rfl
  f129 := Ybad.func25.trans (congrArg some (by kernel_rfl))
  t3 := Ybad.underlying3
  a3 := Ybad.isAgg3
  z3 := Ybad.sizeOf3
  v3 := Ybad.zeroValue3
  t4 := Ybad.underlying4
  a4 := Ybad.isAgg4
  z4 := Ybad.sizeOf4
  v4 := Ybad.zeroValue4
  t5 := Ybad.underlying5
  a5 := Ybad.isAgg5
  z5 := Ybad.sizeOf5
  v5 := Ybad.zeroValue5
  t9 := Ybad.underlying9
  a9 := Ybad.isAgg9
  z9 := Ybad.sizeOf9
  v9 := Ybad.zeroValue9
  t46 := Ybad.underlying41
  a46 := Ybad.isAgg41
  z46 := Ybad.sizeOf41
  v46 := Ybad.zeroValue41
  t53 := Ybad.underlying37
  a53 := Ybad.isAgg37
  z53 := Ybad.sizeOf37
  v53 := Ybad.zeroValue37 }
theorem Ybad.bits_Len64 (x : Int) (w : World) (h0 : 0 ≤ x) (h1 : x ≤ 18446744073709551615) :
    Calls Ybad.prog 25 #[.int .u64 x] w fun e w' => e = .returned (.int .i64 (Lib.bitLen x.toNat)) ∧ w' = w := Any.bits_Len64 Ybad.lays129 x w h0 h1
def Ybad.lays283_ren : Go.Shelf.Ren := ⟨fun | 283 => 32 | n => n, fun | 3 => 3 | 9 => 9 | 4 => 4 | n => n, fun | n => n⟩
theorem Ybad.lays283 : Go.Proofs.Lays.n283 Ybad.prog Ybad.lays283_ren := {
  mixed := by kernel_rfl
  f283 := Ybad.func32.trans (congrArg some (by kernel_rfl))
  t3 := Ybad.underlying3
  a3 := Ybad.isAgg3
  z3 := Ybad.sizeOf3
  v3 := Ybad.zeroValue3
  t4 := Ybad.underlying4
  a4 := Ybad.isAgg4
  z4 := Ybad.sizeOf4
  v4 := Ybad.zeroValue4
  t9 := Ybad.underlying9
  a9 := Ybad.isAgg9
  z9 := Ybad.sizeOf9
  v9 := Ybad.zeroValue9 }
open Go.Lib in
theorem Ybad.internal_strconv_small (i : Nat) (h : i < 100) (w : World) :
    Calls Ybad.prog 32 #[.int .i64 i] w fun e w' => e = .returned (.string ⟨(Lib.decDigits i).toArray⟩) ∧ w' = w := Any.internal_strconv_small Ybad.lays283 i h w
def Ybad.laysM284_ren : Go.Shelf.Ren := ⟨fun | 284 => 33 | 129 => 25 | 317 => 36 | 318 => 37 | n => n, fun | 53 => 37 | 3 => 3 | 212 => 84 | 0 => 0 | 4 => 4 | 46 => 41 | 5 => 5 | 9 => 9 | n => n, fun | 17 => 3 | n => n⟩
theorem Ybad.laysM284 : Go.Proofs.LaysM.n284 Ybad.prog Ybad.laysM284_ren := {
  mixed := by kernel_rfl
  f129 := Ybad.func25.trans (congrArg some (by kernel_rfl))
  f284 := Ybad.func33.trans (congrArg some (by kernel_rfl))
  f317 := Ybad.func36.trans (congrArg some (by kernel_rfl))
  f318 := Ybad.func37.trans (congrArg some (by kernel_rfl))
  t0 := Ybad.underlying0
  a0 := Ybad.isAgg0
  z0 := Ybad.sizeOf0
  v0 := Ybad.zeroValue0
  t3 := Ybad.underlying3
  a3 := Ybad.isAgg3
  z3 := Ybad.sizeOf3
  v3 := Ybad.zeroValue3
  t4 := Ybad.underlying4
  a4 := Ybad.isAgg4
  z4 := Ybad.sizeOf4
  v4 := Ybad.zeroValue4
  t5 := Ybad.underlying5
  a5 := Ybad.isAgg5
  z5 := Ybad.sizeOf5
  v5 := Ybad.zeroValue5
  t9 := Ybad.underlying9
  a9 := Ybad.isAgg9
  z9 := Ybad.sizeOf9
  v9 := Ybad.zeroValue9
  t46 := Ybad.underlying41
  a46 := Ybad.isAgg41
  z46 := Ybad.sizeOf41
  v46 := Ybad.zeroValue41
  t53 := Ybad.underlying37
  a53 := Ybad.isAgg37
  z53 := Ybad.sizeOf37
  v53 := Ybad.zeroValue37
  t212 := Ybad.underlying84
  a212 := Ybad.isAgg84
  z212 := Ybad.sizeOf84
  v212 := Ybad.zeroValue84
  g17 := by kernel_rfl
  i0 := by kernel_rfl
  i3 := by kernel_rfl
  i4 := by kernel_rfl
  i5 := by kernel_rfl
  i9 := by kernel_rfl
  i46 := by kernel_rfl
  i53 := by kernel_rfl
  i212 := by kernel_rfl
  m17 := by kernel_rfl }
open Go.Lib in
theorem Ybad.internal_strconv_numDigits (u : Nat) (h1 : 1 ≤ u) (h2 : u < 18446744073709551616) (w : World) (htab : Lib.TabIs Ybad.prog w "internal/strconv.uint64pow10" .u64 Lib.pow10Tab) :
    Calls Ybad.prog 33 #[.int .u64 u] w fun e w' => e = .returned (.int .i64 (Lib.nDigits u)) ∧ w' = w := Any.internal_strconv_numDigits Ybad.laysM284 u h1 h2 w htab
def Ybad.lays285_ren : Go.Shelf.Ren := ⟨fun | 285 => 34 | n => n, fun | 37 => 33 | 53 => 37 | 3 => 3 | 4 => 4 | 51 => 85 | 9 => 9 | 5 => 5 | 0 => 0 | n => n, fun | n => n⟩
theorem Ybad.lays285 : Go.Proofs.Lays.n285 Ybad.prog Ybad.lays285_ren := {
  mixed := by kernel_rfl
  f285 := Ybad.func34.trans (congrArg some (by kernel_rfl))
  t0 := Ybad.underlying0
  a0 := Ybad.isAgg0
  z0 := Ybad.sizeOf0
  v0 := Ybad.zeroValue0
  t3 := Ybad.underlying3
  a3 := Ybad.isAgg3
  z3 := Ybad.sizeOf3
  v3 := Ybad.zeroValue3
  t4 := Ybad.underlying4
  a4 := Ybad.isAgg4
  z4 := Ybad.sizeOf4
  v4 := Ybad.zeroValue4
  t5 := Ybad.underlying5
  a5 := Ybad.isAgg5
  z5 := Ybad.sizeOf5
  v5 := Ybad.zeroValue5
  t9 := Ybad.underlying9
  a9 := Ybad.isAgg9
  z9 := Ybad.sizeOf9
  v9 := Ybad.zeroValue9
  t37 := Ybad.underlying33
  a37 := Ybad.isAgg33
  z37 := Ybad.sizeOf33
  v37 := Ybad.zeroValue33
  t51 := Ybad.underlying85
  a51 := Ybad.isAgg85
  z51 := Ybad.sizeOf85
  v51 := Ybad.zeroValue85
  t53 := Ybad.underlying37
  a53 := Ybad.isAgg37
  z53 := Ybad.sizeOf37
  v53 := Ybad.zeroValue37 }
open Go.RowKit Go.Sort Go.Lib in
theorem Ybad.internal_strconv_formatBase10 (blk off cap : Nat) (u : Nat) (d : Array UInt8) (w : World) (hH : Holds (fun (b : UInt8) => Value.int .u8 (b.toNat : Int)) w blk off d) (hu : u < 10 ^ d.size) (hu64 : u < 18446744073709551616) (hsz : d.size < 4611686018427387904) :
    Calls Ybad.prog 34 #[.slice (some ⟨blk, off, none⟩) d.size cap, .int .u64 u] w fun e w' =>
      e = .returned (.tuple #[]) ∧ ∃ (n v' : Nat) (dk : Array UInt8), w' = (putRow (fun (b : UInt8) => Value.int .u8 (b.toNat : Int)) w blk off dk).drewN n ∧ FmtInv d.size u 0 v' dk := Any.internal_strconv_formatBase10 Ybad.lays285 blk off cap u d w hH hu hu64 hsz
end Go.Proofs
