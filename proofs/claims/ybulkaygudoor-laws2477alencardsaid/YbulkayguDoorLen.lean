import Derived.Test.YbulkayguDoorPlain
import Derived.Test.YbulkayguDoorShelf
import Derived.Test.YbulkayguDoorRows
import Derived.WalkKit
import Derived.WalkSpells
import Derived.Deep.QuietTactic
import Derived.BigQuiet
import Derived.Lib.Hide
namespace Go.Proofs.YbulkayguDoor
open Go Go.RowKit

theorem ret_int {k : IntKind} {a b : Int} (h : a = b) : Ending.returned (.int k a) = .returned (.int k b) := by rw [h]

/-- the table of the powers of ten lies where the program lays it -/
def Pow (w : World) : Prop := ∀ i, i < 19 → w.cell? ⟨1, i, none⟩ = some (.int .i64 ((10 ^ i : Nat) : Int))

theorem Pow.below {B : Nat} {w w' : World} (h : Pow w) (hB : 1 < B) (hb : Below B w w') : Pow w' :=
  fun i hi => (hb.cell (p := ⟨1, i, none⟩) hB).trans (h i hi)

set_option maxRecDepth 100000 in
set_option maxHeartbeats 400000 in
theorem decimalLen_any (n : Nat) (w : World) (h1 : 1 ≤ n) (h2 : n ≤ 4700000000000000000) (hp : Pow w) :
    Calls Ybad.prog 19 #[.int .i64 n] w fun e w' => e = .returned (.int .i64 (Lib.nDigits n)) ∧ w' = w := by
  obtain ⟨e1, e2, e3⟩ := dlen_eq n h1 (by omega)
  obtain ⟨K, hK⟩ : ∃ K : Nat, 10 ^ (Lib.bitLen n * 1233 / 4096) = K := ⟨_, rfl⟩
  have hc := hp _ (show Lib.bitLen n * 1233 / 4096 < 19 from by omega)
  rw [hK] at hc e1
  have E := Lib.hid e1
  clear e1 hK hp
  by_cases hk : K ≤ n
  · go_enter Ybad.func19, Ybad.ntmps19
    go_wp2_with (go_at_call 25; refine (Ybad.bits_Len64 (n : Int) _ (by omega) (by omega)).mono ?_; rintro e w' ⟨rfl, rfl⟩)
    go_ret
    have e1 := E.out
    rw [if_pos hk] at e1
    exact ⟨ret_int (by omega), rfl⟩
  · go_enter Ybad.func19, Ybad.ntmps19
    go_wp2_with (go_at_call 25; refine (Ybad.bits_Len64 (n : Int) _ (by omega) (by omega)).mono ?_; rintro e w' ⟨rfl, rfl⟩)
    go_ret
    have e1 := E.out
    rw [if_neg hk] at e1
    exact ⟨ret_int (by omega), rfl⟩
end Go.Proofs.YbulkayguDoor
