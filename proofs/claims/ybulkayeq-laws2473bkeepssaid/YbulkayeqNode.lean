import Derived.Test.YbulkayeqCount
namespace Go.Proofs.Ybulkayeq
open Go.RowKit

/-- where node i lies: block g, from offset (i % 1024) * 7 on -/
structure At (T i : Nat) (L : List Value) (O n capO g ln cap : Nat) (w : World) : Prop where
  tree : w.cell? ⟨T, 3, none⟩ = some (.slice (some ⟨O, 0, none⟩) n capO)
  hi : i / 1024 < n
  outer : w.cell? ⟨O, i / 1024, none⟩ = some (.slice (some ⟨g, 0, none⟩) ln cap)
  hln : i % 1024 < ln
  cells : ∀ q, q < 7 → w.cell? ⟨g, i % 1024 * 7 + q, none⟩ = L[i * 7 + q]?
  free : ∀ q, w.frozen? ⟨g, q, none⟩ = false

theorem TS.at {B T n len : Nat} {L : List Value} {O capO : Nat} {v : Value} {Bl : Nat} {xs : List Value} {w : World} (h : TS B T n len L O capO v Bl xs w) (hv : v ≠ .slice none 0 0) (i : Nat) (hi : i < n * 1024 + len) (hlen : len ≤ 1024) :
    ∃ g ln cap, At T i L O (n + 1) capO g ln cap w ∧ ln ≤ 1024 := by
  obtain ⟨ct, _, cO, _, hxl⟩ := h.cells
  have hL := h.hL
  by_cases hin : i / 1024 < n
  · obtain ⟨g, cap, cur, h1, _, h3, h4⟩ := h.hfull _ hin
    refine ⟨g, 1024, cap, ⟨ct, by omega, ?_, by omega, ?_, fun q => frozen_of_row w g q cur 55 h3⟩, by omega⟩
    · rw [h.hO.cellAt _ (by omega), List.getElem?_append_left (by omega)]; exact h1
    · intro q hq
      rw [cell_of_row w g _ cur 55 (0, 0) h3]
      have e := congrArg (fun l : List Value => l[i % 1024 * 7 + q]?) h4
      simp only [List.getElem?_take, List.getElem?_drop] at e
      rw [if_pos (by omega), if_pos (by omega)] at e
      rw [← Array.getElem?_toList, e]
      congr 1; omega
  · have hin' : i / 1024 = n := by omega
    obtain ⟨g, cap, rfl⟩ := own_slice h.hI hv
    refine ⟨g, len, cap, ⟨ct, by omega, by rw [hin']; exact cO, by omega, ?_, fun q => h.hI.frozenAt q⟩, hlen⟩
    intro q hq
    rw [h.hI.cellAt _ (by omega), List.getElem?_drop]
    congr 1; omega

theorem Inv.at {T c : Nat} {L : List Value} {w : World} (h : Inv T c L w) (i : Nat) (hi : i < c) :
    ∃ O n capO g ln cap, At T i L O n capO g ln cap w ∧ ln ≤ 1024 := by
  rcases h with ⟨rfl, _⟩ | ⟨_, O, capO, v, Bl, xs, hv, h⟩
  · omega
  · obtain ⟨g, ln, cap, h1, h2⟩ := h.at hv i (by omega) (by omega)
    exact ⟨O, _, capO, g, ln, cap, h1, h2⟩

set_option maxRecDepth 100000 in
set_option maxHeartbeats 400000 in
theorem node_any (T i : Nat) (L : List Value) (O n capO g ln cap : Nat) (w : World) (hi : i ≤ 4000) (_hln : ln ≤ 1024) (h : At T i L O n capO g ln cap w) :
    Calls Yba.prog 10 #[.pointer (some ⟨T, 0, none⟩), .int .i32 i] w fun e w' => e = .returned (.pointer (some ⟨g, i % 1024 * 7, none⟩)) ∧ w' = w := by
  obtain ⟨h1, h2, h3, h4, h5, h6⟩ := h
  clear h5 h6
  go_enter Yba.func10, Yba.ntmps10
  go_wp2
  go_ret
  exact ⟨rfl, rfl⟩
theorem TS.set {B T n len : Nat} {L : List Value} {O capO g cap : Nat} {Bl : Nat} {xs : List Value} {w : World} (h : TS B T n len L O capO (.slice (some ⟨g, 0, none⟩) len cap) Bl xs w) (j : Nat) (u : Value) :
    TS B T n len (L.set (n * 7168 + j) u) O capO (.slice (some ⟨g, 0, none⟩) len cap) Bl xs (w.setCell ⟨g, j, none⟩ u) := by
  obtain ⟨hBg, curg, hgb, _⟩ := own_block h.hI
  obtain ⟨_, curO, hOb, _⟩ := own_block h.hO
  have hgT : T ≠ g := fun e => by have := h.hT; subst e; rw [hgb] at this; simp [treeObj] at this
  have hgO : O ≠ g := fun e => by subst e; rw [hgb] at hOb; simp at hOb
  refine ⟨h.hBT, ?_, ?_, ?_, ?_, h.hBBl, by simpa using h.hBlw, by simpa using h.hL⟩
  · rw [heap_setCell_other _ _ _ _ hgT]; exact h.hT
  · exact ownsRow_setCell_other h.hO (by simpa [Value.ownBlock] using hgO) _
  · intro q hq
    obtain ⟨gj, cj, cur, h1, h2, h3, h4⟩ := h.hfull q hq
    refine ⟨gj, cj, cur, h1, h2, ?_, ?_⟩
    · rw [heap_setCell_other _ _ _ _ (by simp; omega)]; exact h3
    · rw [h4]
      apply List.ext_getElem?
      intro t
      simp only [List.getElem?_take, List.getElem?_drop, List.getElem?_set]
      split
      · rw [if_neg (by omega)]
      · rfl
  · have := (h.hI.stored j u).1
    rw [List.drop_set, if_neg (by omega), show n * 7168 + j - n * 7168 = j from by omega]
    exact this

/-- a node of ours: its start and its vertex -/
def nodeOf (a b : Value) : List Value := [a, .int .u64 0, .int .u64 0, b, .int .i32 0, .int .i32 0, .int .i32 0]

theorem Inv.put {T c : Nat} {L : List Value} {w : World} (h : Inv T (c + 1) (L ++ Z7) w) (hL : L.length = c * 7) {O n capO g ln cap : Nat} (ha : At T c (L ++ Z7) O n capO g ln cap w) (a b : Value) :
    Inv T (c + 1) (L ++ nodeOf a b) ((w.setCell ⟨g, c % 1024 * 7, none⟩ a).setCell ⟨g, c % 1024 * 7 + 3, none⟩ b) ∧ T ≤ g := by
  rcases h with ⟨h, _⟩ | ⟨_, O', capO', v, Bl, xs, hv, h⟩
  · omega
  · obtain ⟨g', cap', rfl⟩ := own_slice h.hI hv
    obtain ⟨ct, _, cO, _, hxl⟩ := h.cells
    have e1 := ha.tree
    rw [ct] at e1
    simp at e1
    obtain ⟨rfl, _, _⟩ := e1
    have e2 := ha.outer
    have e0 : (c + 1 - 1) / 1024 = c / 1024 := by omega
    rw [e0] at cO
    rw [cO] at e2
    simp at e2
    obtain ⟨rfl, _, _⟩ := e2
    have h2 := (h.set (c % 1024 * 7) a).set (c % 1024 * 7 + 3) b
    rw [e0] at h2
    refine ⟨.inr ⟨by omega, O', capO', _, Bl, xs, hv, ?_⟩, Nat.le_trans h.hBBl (own_block h.hI).1⟩
    rw [e0]
    have e3 : ((L ++ Z7).set (c / 1024 * 7168 + c % 1024 * 7) a).set (c / 1024 * 7168 + (c % 1024 * 7 + 3)) b = L ++ nodeOf a b := by
      rw [show c / 1024 * 7168 + c % 1024 * 7 = L.length + 0 from by omega, show c / 1024 * 7168 + (c % 1024 * 7 + 3) = L.length + 3 from by omega,
        List.set_append_right _ _ (by omega), List.set_append_right _ _ (by omega)]
      simp [Z7, nodeOf]
    rw [e3] at h2
    exact h2
end Go.Proofs.Ybulkayeq
