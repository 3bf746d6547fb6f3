/- The shelf's contracts at this dump, in plain words (written by the kit's lay-shelf and lay-plain tools for this program; what the proof does not use struck). -/
import Derived.Shelf.Strings.Builder2
import Derived.Shelf.Strings.BuilderK
import Derived.Ground.PaProg
import Derived.Shelf.Hex.Tagged
import Derived.Shelf.Hex.Lens
import Derived.Test.YbulkayguDoorProg
namespace Go.Proofs
open Go.Shelf
def Ybad.lays169_ren : Go.Shelf.Ren := ⟨fun | 169 => 16 | n => n, fun | 70 => 49 | 9 => 9 | 0 => 0 | 72 => 51 | 37 => 33 | 127 => 68 | 3 => 3 | 5 => 5 | n => n, fun | n => n⟩
theorem Ybad.lays169 : Go.Proofs.Lays.n169 Ybad.prog Ybad.lays169_ren := {
  mixed := by kernel_rfl
  f169 := Ybad.func16.trans (congrArg some (by kernel_rfl))
  t0 := Ybad.underlying0
  a0 := Ybad.isAgg0
  z0 := Ybad.sizeOf0
  v0 := Ybad.zeroValue0
  t3 := Ybad.underlying3
  a3 := Ybad.isAgg3
  z3 := Ybad.sizeOf3
  v3 := Ybad.zeroValue3
  t9 := Ybad.underlying9
  a9 := Ybad.isAgg9
  z9 := Ybad.sizeOf9
  v9 := Ybad.zeroValue9
  t37 := Ybad.underlying33
  a37 := Ybad.isAgg33
  z37 := Ybad.sizeOf33
  v37 := Ybad.zeroValue33
  t70 := Ybad.underlying49
  a70 := Ybad.isAgg49
  z70 := Ybad.sizeOf49
  v70 := Ybad.zeroValue49
  t72 := Ybad.underlying51
  a72 := Ybad.isAgg51
  z72 := Ybad.sizeOf51
  v72 := Ybad.zeroValue51
  t127 := Ybad.underlying68
  a127 := Ybad.isAgg68
  z127 := Ybad.sizeOf68
  v127 := Ybad.zeroValue68 }
theorem Ybad.Builder_Extra_169 : Builder.Extra Ybad.prog Ybad.lays169_ren := {
  sizeBuilder := by kernel_rfl
  liesBuilder := by kernel_rfl
  t5 := Ybad.underlying5
  a5 := Ybad.isAgg5
  z5 := Ybad.sizeOf5
  v5 := Ybad.zeroValue5
  infoByte := by kernel_rfl
  cellsByte := by kernel_rfl
  sizeByte := by kernel_rfl
  neB5 := by decide }
def Ybad.lays165_ren : Go.Shelf.Ren := ⟨fun | 165 => 10 | 240 => 20 | 241 => 21 | 276 => 26 | 277 => 27 | n => n, fun | 70 => 49 | 3 => 3 | 0 => 0 | 4 => 4 | 9 => 9 | 20 => 20 | 72 => 51 | 37 => 33 | 164 => 71 | 5 => 5 | n => n, fun | n => n⟩
theorem Ybad.lays165 : Go.Proofs.Lays.n165 Ybad.prog Ybad.lays165_ren := {
  mixed := by kernel_rfl
  f165 := Ybad.func10.trans (congrArg some (by kernel_rfl))
  f240 := Ybad.func20.trans (congrArg some (by kernel_rfl))
  f241 := Ybad.func21.trans (congrArg some (by kernel_rfl))
  f276 := Ybad.func26.trans (congrArg some (by kernel_rfl))
  f277 := Ybad.func27.trans (congrArg some (by kernel_rfl))
  t0 := Ybad.underlying0
  a0 := Ybad.isAgg0
  z0 := Ybad.sizeOf0
  v0 := Ybad.zeroValue0
  t3 := Ybad.underlying3
  a3 := Ybad.isAgg3
  z3 := Ybad.sizeOf3
  v3 := Ybad.zeroValue3
  t4 := Ybad.underlying4
  a4 := Ybad.isAgg4
  z4 := Ybad.sizeOf4
  v4 := Ybad.zeroValue4
  t9 := Ybad.underlying9
  a9 := Ybad.isAgg9
  z9 := Ybad.sizeOf9
  v9 := Ybad.zeroValue9
  t20 := Ybad.underlying20
  a20 := Ybad.isAgg20
  z20 := Ybad.sizeOf20
  v20 := Ybad.zeroValue20
  t37 := Ybad.underlying33
  a37 := Ybad.isAgg33
  z37 := Ybad.sizeOf33
  v37 := Ybad.zeroValue33
  t70 := Ybad.underlying49
  a70 := Ybad.isAgg49
  z70 := Ybad.sizeOf49
  v70 := Ybad.zeroValue49
  t72 := Ybad.underlying51
  a72 := Ybad.isAgg51
  z72 := Ybad.sizeOf51
  v72 := Ybad.zeroValue51
  t164 := Ybad.underlying71
  a164 := Ybad.isAgg71
  z164 := Ybad.sizeOf71
  v164 := Ybad.zeroValue71 }
theorem Ybad.Builder_Extra_165 : Builder.Extra Ybad.prog Ybad.lays165_ren := {
  sizeBuilder := by kernel_rfl
  liesBuilder := by kernel_rfl
  t5 := Ybad.underlying5
  a5 := Ybad.isAgg5
  z5 := Ybad.sizeOf5
  v5 := Ybad.zeroValue5
  infoByte := by kernel_rfl
  cellsByte := by kernel_rfl
  sizeByte := by kernel_rfl
  neB5 := by decide }
open Go.RowKit in
theorem Ybad.Builder_Grow_fresh (B b n : Nat) (w : World) (hB : B ≤ b) (hbk : w.heap[b]? = some (.cells #[.pointer none, .slice none 0 0] 51 (0, 0))) (hBw : B ≤ w.heap.size) (hn : n ≤ 281474976710656) :
    Calls Ybad.prog 10 #[.pointer (some ⟨b, 0, none⟩), .int .i64 n] w fun e w' => e = .returned (.tuple #[]) ∧ (Lib.BuilderAt 51 5 B b (.pointer (some ⟨b, 0, none⟩)) [] w' ∧ Below B w w') := Any.Builder_Grow_fresh Ybad.lays165 Ybad.Builder_Extra_165 B b n w hB hbk hBw hn
open Go.RowKit in
theorem Ybad.Builder_String_any_k (B b : Nat) (l : List UInt8) (w : World) (h : Lib.IsBuilderF 51 5 B b (Lib.byteCells l) w) (hBw : B ≤ w.heap.size) :
    Calls Ybad.prog 16 #[.pointer (some ⟨b, 0, none⟩)] w fun e w' => e = .returned (.string ⟨l.toArray⟩) ∧ (Lib.IsBuilderF 51 5 B b (Lib.byteCells l) w' ∧ Below B w w' ∧ Lib.OthersKept 5 (some b) w w') := Any.Builder_String_any_k Ybad.lays169 Ybad.Builder_Extra_169 B b l w h hBw
def Ybad.laysPa40_ren : Go.Shelf.Ren := ⟨fun | 40 => 30 | n => n, fun | 30 => 33 | 3 => 3 | 0 => 0 | 5 => 5 | 46 => 41 | 9 => 9 | n => n, fun | n => n⟩
theorem Ybad.laysPa40 : Go.Proofs.Lays.p40 Ybad.prog Ybad.laysPa40_ren := {
  mixed := by kernel_rfl
  f40 := Ybad.func30.trans (congrArg some (by kernel_rfl))
  t0 := Ybad.underlying0
  a0 := Ybad.isAgg0
  z0 := Ybad.sizeOf0
  v0 := Ybad.zeroValue0
  t3 := Ybad.underlying3
  a3 := Ybad.isAgg3
  z3 := Ybad.sizeOf3
  v3 := Ybad.zeroValue3
  t5 := Ybad.underlying5
  a5 := Ybad.isAgg5
  z5 := Ybad.sizeOf5
  v5 := Ybad.zeroValue5
  t9 := Ybad.underlying9
  a9 := Ybad.isAgg9
  z9 := Ybad.sizeOf9
  v9 := Ybad.zeroValue9
  t30 := Ybad.underlying33
  a30 := Ybad.isAgg33
  z30 := Ybad.sizeOf33
  v30 := Ybad.zeroValue33
  t46 := Ybad.underlying41
  a46 := Ybad.isAgg41
  z46 := Ybad.sizeOf41
  v46 := Ybad.zeroValue41 }
open Go.RowKit Go.Lib in
theorem Ybad.hex_Encode_tag (T : TypeId) (bd od nd cd N : Nat) (f : Nat → Value) (bs os n cs : Nat) (xs : List Int) (w : World) (hx : xs.length = n) (hr : ∀ i, i < n → 0 ≤ xs.getD i 0 ∧ xs.getD i 0 < 256) (hsrc : ∀ i, i < n → w.cell? ⟨bs, os + i, none⟩ = some (.int .u8 (xs.getD i 0))) (hrow : w.rowIs bd T N f) (hfit : od + nd ≤ N) (hlen : 2 * n ≤ nd) (hne : bd ≠ bs) (hbig : n ≤ 4611686018427387903) :
    Calls Ybad.prog 30 #[.slice (some ⟨bd, od, none⟩) nd cd, .slice (some ⟨bs, os, none⟩) n cs] w fun e w' => e = .returned (.int .i64 ((n : Int) * 2)) ∧ w'.rowIs bd T N (Hx.row f od (Lib.bytesOf xs) n) ∧ w.grownBy w' (some bd) := Any.hex_Encode_tag Ybad.laysPa40 T bd od nd cd N f bs os n cs xs w hx hr hsrc hrow hfit hlen hne hbig
def Ybad.laysPa41_ren : Go.Shelf.Ren := ⟨fun | 41 => 28 | n => n, fun | 3 => 3 | n => n, fun | n => n⟩
theorem Ybad.laysPa41 : Go.Proofs.Lays.p41 Ybad.prog Ybad.laysPa41_ren := {
  mixed := by kernel_rfl
  f41 := Ybad.func28.trans (congrArg some (by kernel_rfl))
  t3 := Ybad.underlying3
  a3 := Ybad.isAgg3
  z3 := Ybad.sizeOf3
  v3 := Ybad.zeroValue3 }
open Go.RowKit Go.Lib in
theorem Ybad.hex_EncodedLen (n : Int) (h0 : 0 ≤ n) (h1 : n < 4611686018427387904) (w : World) :
    Calls Ybad.prog 28 #[.int .i64 n] w fun e w' => e = .returned (.int .i64 (n * 2)) ∧ w' = w := Any.hex_EncodedLen Ybad.laysPa41 n h0 h1 w
def Ybad.laysW_ren : Go.Shelf.Ren := ⟨fun | 166 => 11 | 167 => 14 | 240 => 20 | 276 => 26 | n => n, fun | 70 => 49 | 3 => 3 | 0 => 0 | 4 => 4 | 9 => 9 | 20 => 20 | 72 => 51 | 37 => 33 | 164 => 71 | 5 => 5 | 75 => 55 | 80 => 26 | n => n, fun | n => n⟩
theorem Ybad.lays167 : Go.Proofs.Lays.n167 Ybad.prog Ybad.laysW_ren := {
  mixed := by kernel_rfl
  f167 := Ybad.func14.trans (congrArg some (by kernel_rfl))
  f240 := Ybad.func20.trans (congrArg some (by kernel_rfl))
  f276 := Ybad.func26.trans (congrArg some (by kernel_rfl))
  t0 := Ybad.underlying0
  a0 := Ybad.isAgg0
  z0 := Ybad.sizeOf0
  v0 := Ybad.zeroValue0
  t4 := Ybad.underlying4
  a4 := Ybad.isAgg4
  z4 := Ybad.sizeOf4
  v4 := Ybad.zeroValue4
  t5 := Ybad.underlying5
  a5 := Ybad.isAgg5
  z5 := Ybad.sizeOf5
  v5 := Ybad.zeroValue5
  t9 := Ybad.underlying9
  a9 := Ybad.isAgg9
  z9 := Ybad.sizeOf9
  v9 := Ybad.zeroValue9
  t20 := Ybad.underlying20
  a20 := Ybad.isAgg20
  z20 := Ybad.sizeOf20
  v20 := Ybad.zeroValue20
  t37 := Ybad.underlying33
  a37 := Ybad.isAgg33
  z37 := Ybad.sizeOf33
  v37 := Ybad.zeroValue33
  t70 := Ybad.underlying49
  a70 := Ybad.isAgg49
  z70 := Ybad.sizeOf49
  v70 := Ybad.zeroValue49
  t72 := Ybad.underlying51
  a72 := Ybad.isAgg51
  z72 := Ybad.sizeOf51
  v72 := Ybad.zeroValue51
  t75 := Ybad.underlying55
  a75 := Ybad.isAgg55
  z75 := Ybad.sizeOf55
  v75 := Ybad.zeroValue55
  t164 := Ybad.underlying71
  a164 := Ybad.isAgg71
  z164 := Ybad.sizeOf71
  v164 := Ybad.zeroValue71 }
theorem Ybad.lays166 : Go.Proofs.Lays.n166 Ybad.prog Ybad.laysW_ren := {
  mixed := by kernel_rfl
  f166 := Ybad.func11.trans (congrArg some (by kernel_rfl))
  f240 := Ybad.func20.trans (congrArg some (by kernel_rfl))
  f276 := Ybad.func26.trans (congrArg some (by kernel_rfl))
  t0 := Ybad.underlying0
  a0 := Ybad.isAgg0
  z0 := Ybad.sizeOf0
  v0 := Ybad.zeroValue0
  t3 := Ybad.underlying3
  a3 := Ybad.isAgg3
  z3 := Ybad.sizeOf3
  v3 := Ybad.zeroValue3
  t4 := Ybad.underlying4
  a4 := Ybad.isAgg4
  z4 := Ybad.sizeOf4
  v4 := Ybad.zeroValue4
  t9 := Ybad.underlying9
  a9 := Ybad.isAgg9
  z9 := Ybad.sizeOf9
  v9 := Ybad.zeroValue9
  t20 := Ybad.underlying20
  a20 := Ybad.isAgg20
  z20 := Ybad.sizeOf20
  v20 := Ybad.zeroValue20
  t37 := Ybad.underlying33
  a37 := Ybad.isAgg33
  z37 := Ybad.sizeOf33
  v37 := Ybad.zeroValue33
  t70 := Ybad.underlying49
  a70 := Ybad.isAgg49
  z70 := Ybad.sizeOf49
  v70 := Ybad.zeroValue49
  t72 := Ybad.underlying51
  a72 := Ybad.isAgg51
  z72 := Ybad.sizeOf51
  v72 := Ybad.zeroValue51
  t75 := Ybad.underlying55
  a75 := Ybad.isAgg55
  z75 := Ybad.sizeOf55
  v75 := Ybad.zeroValue55
  t164 := Ybad.underlying71
  a164 := Ybad.isAgg71
  z164 := Ybad.sizeOf71
  v164 := Ybad.zeroValue71 }
theorem Ybad.Builder_Extra_W : Builder.Extra Ybad.prog Ybad.laysW_ren := {
  sizeBuilder := by kernel_rfl
  liesBuilder := by kernel_rfl
  t5 := Ybad.underlying5
  a5 := Ybad.isAgg5
  z5 := Ybad.sizeOf5
  v5 := Ybad.zeroValue5
  infoByte := by kernel_rfl
  cellsByte := by kernel_rfl
  sizeByte := by kernel_rfl
  neB5 := by decide }
open Go.RowKit in
theorem Ybad.Builder_copyCheck_k (B b : Nat) (bs : List Value) (w : World) (h : Lib.IsBuilderF 51 5 B b bs w) :
    Calls Ybad.prog 20 #[.pointer (some ⟨b, 0, none⟩)] w fun e w' => e = .returned (.tuple #[]) ∧ (Lib.BuilderAtF 51 5 B b (.pointer (some ⟨b, 0, none⟩)) bs w' ∧ Below B w w' ∧ Lib.OthersKept 5 (some b) w w') := Any.Builder_copyCheck_k { Ybad.lays167 with } Ybad.Builder_Extra_W.toX72 B b bs w h
open Go.RowKit in
theorem Ybad.Builder_WriteByte_k (B b : Nat) (bs : List Value) (c : Int) (w : World) (h : Lib.IsBuilderF 51 5 B b bs w) (hlen : bs.length + 1 ≤ 140737488355328) (hBw : B ≤ w.heap.size) :
    Calls Ybad.prog 14 #[.pointer (some ⟨b, 0, none⟩), .int .u8 c] w fun e w' => e = .returned .nilIface ∧ (Lib.BuilderAtF 51 5 B b (.pointer (some ⟨b, 0, none⟩)) (bs ++ [.int .u8 c]) w' ∧ Below B w w' ∧ Lib.OthersKept 5 (some b) w w') := Any.Builder_WriteByte_k Ybad.lays167 Ybad.Builder_Extra_W B b bs c w h hlen hBw
open Go.RowKit in
theorem Ybad.Builder_WriteString_k (B b : Nat) (bs : List Value) (s : ByteArray) (w : World) (h : Lib.IsBuilderF 51 5 B b bs w) (hlen : bs.length + s.size ≤ 140737488355328) (hBw : B ≤ w.heap.size) :
    Calls Ybad.prog 11 #[.pointer (some ⟨b, 0, none⟩), .string s] w fun e w' => e = .returned (.tuple #[.int .i64 s.size, .nilIface]) ∧ (Lib.BuilderAtF 51 5 B b (.pointer (some ⟨b, 0, none⟩)) (bs ++ Lib.strCells s) w' ∧ Below B w w' ∧ Lib.OthersKept 5 (some b) w w') := Any.Builder_WriteString_k Ybad.lays166 Ybad.Builder_Extra_W B b bs s w h hlen hBw
end Go.Proofs
