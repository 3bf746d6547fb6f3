import Derived.Test.YbulkayeqGrow
namespace Go.Proofs.Ybulkayeq
open Go.RowKit

/-- the tree at T behind c calls of grow; L: all nodes' cells -/
def Inv (T c : Nat) (L : List Value) (w : World) : Prop :=
  (c = 0 ∧ L = [] ∧ w.heap[T]? = some (treeObj (.slice none 0 0))) ∨
  (0 < c ∧ ∃ O capO v Bl xs, v ≠ .slice none 0 0 ∧ TS T T ((c - 1) / 1024) ((c - 1) % 1024 + 1) L O capO v Bl xs w)

theorem grow_any (T c : Nat) (L : List Value) (w : World) (hc : c ≤ 4000) (hT : T < w.heap.size) (h : Inv T c L w) :
    Calls Yba.prog 11 #[.pointer (some ⟨T, 0, none⟩)] w fun e w' => e = .returned (.int .i32 c) ∧ Inv T (c + 1) (L ++ Z7) w' ∧ Below T w w' := by
  rcases h with ⟨rfl, rfl, h0⟩ | ⟨hpos, O, capO, v, Bl, xs, hv, h⟩
  · refine (grow_first T T w (by omega) (Nat.le_refl _) h0).mono ?_
    rintro e w' ⟨rfl, ⟨O, capO, v', Bl, hv, hts⟩, hb⟩
    exact ⟨rfl, .inr ⟨by omega, O, capO, v', Bl, [], hv, hts⟩, hb⟩
  · by_cases hl : (c - 1) % 1024 + 1 < 1024
    · refine (grow_core T T _ _ L O capO v Bl xs w (by omega) hl (by omega) hv h).mono ?_
      rintro e w' ⟨rfl, ⟨v', hv', hts⟩, hb⟩
      refine ⟨ret_int (by omega), .inr ⟨by omega, O, capO, v', Bl, xs, hv', ?_⟩, hb⟩
      have e1 : (c + 1 - 1) / 1024 = (c - 1) / 1024 := by omega
      have e2 : (c + 1 - 1) % 1024 + 1 = (c - 1) % 1024 + 1 + 1 := by omega
      rw [e1, e2]
      exact hts
    · have e0 : (c - 1) % 1024 + 1 = 1024 := by omega
      rw [e0] at h
      refine (grow_more T T _ L O capO v Bl xs w (by omega) (by omega) hv h).mono ?_
      rintro e w' ⟨rfl, ⟨O', capO', v', Bl', xs', hv', hts⟩, hb⟩
      refine ⟨ret_int (by omega), .inr ⟨by omega, O', capO', v', Bl', xs', hv', ?_⟩, hb⟩
      have e1 : (c + 1 - 1) / 1024 = (c - 1) / 1024 + 1 := by omega
      have e2 : (c + 1 - 1) % 1024 + 1 = 1 := by omega
      rw [e1, e2]
      exact hts
end Go.Proofs.Ybulkayeq
