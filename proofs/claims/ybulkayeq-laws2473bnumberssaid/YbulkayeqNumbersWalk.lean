import Derived.Test.YbulkayeqCount
namespace Go.Proofs.Ybulkayeq
open Go.RowKit

/-- behind c > 0 calls: the outer row's cells -/
theorem Inv.outer {T c : Nat} {L : List Value} {w : World} (h : Inv T c L w) (hc : 0 < c) :
    ∃ m ln O capO, 1 ≤ ln ∧ ln ≤ 1024 ∧ ln + 1024 * m = c ∧ w.cell? ⟨T, 3, none⟩ = some (.slice (some ⟨O, 0, none⟩) (m + 1) capO) ∧ w.cell? ⟨T, 4, none⟩ = some (.int .i32 (-1)) ∧
      (∀ q, q < m → ∃ g cap, w.cell? ⟨O, q, none⟩ = some (.slice (some ⟨g, 0, none⟩) 1024 cap)) ∧
      ∃ g cap, w.cell? ⟨O, m, none⟩ = some (.slice (some ⟨g, 0, none⟩) ln cap) := by
  rcases h with ⟨rfl, _⟩ | ⟨_, O, capO, v, Bl, xs, hv, h⟩
  · omega
  · obtain ⟨ct, _, cO, _, hxl⟩ := h.cells
    obtain ⟨g, cap, rfl⟩ := own_slice h.hI hv
    refine ⟨(c - 1) / 1024, (c - 1) % 1024 + 1, O, capO, by omega, by omega, by omega, ct, (tree_cell h.hT).2.1, ?_, g, cap, cO⟩
    intro q hq
    obtain ⟨gj, cj, _, h1, _⟩ := h.hfull q hq
    refine ⟨gj, cj, ?_⟩
    rw [h.hO.cellAt q (by omega), List.getElem?_append_left (by omega)]
    exact h1

theorem Inv.zero {T : Nat} {L : List Value} {w : World} (h : Inv T 0 L w) : w.cell? ⟨T, 3, none⟩ = some (.slice none 0 0) ∧ w.cell? ⟨T, 4, none⟩ = some (.int .i32 (-1)) := by
  rcases h with ⟨_, _, h⟩ | ⟨h, _⟩
  · exact ⟨(tree_cell h).1, (tree_cell h).2.1⟩
  · omega

set_option maxRecDepth 100000 in
set_option maxHeartbeats 1000000 in
theorem numbers_walk (a0 : Int) (a1 : Int) (b0 : 0 ≤ a0 ∧ a0 ≤ 255) (b1 : 0 ≤ a1 ∧ a1 ≤ 65535) (w : World) :
    Calls Yba.prog 5 #[.int .u8 a0, .int .u16 a1] w fun e w' => e = .returned (.bool true) ∧ Below w.heap.size w w' := by
  obtain ⟨N, hN⟩ : ∃ N : Nat, a0 % 3 * 1024 + a1 % 1100 = (N : Int) := ⟨(a0 % 3 * 1024 + a1 % 1100).toNat, by omega⟩
  have hN2 : N ≤ 3147 := by omega
  go_enter Yba.func5, Yba.ntmps5
  go_wp2_with fail
  go_loopw [7] (fun i wr => ∃ k : Nat, k ≤ N ∧ i = .int .i64 k ∧ (∃ L, Inv w.heap.size k L wr) ∧ Below w.heap.size w wr ∧ w.heap.size < wr.heap.size)
    (fun i _ => N - (intOf i).toNat)
  case atStart => exact ⟨0, by omega, rfl, ⟨[], .inl ⟨rfl, rfl, heap_alloc_new _ _⟩⟩, (Below.refl _ _).alloc (Nat.le_refl _) _, by simp⟩
  case round =>
    obtain ⟨k, hk, rfl, ⟨L, hinv⟩, hbel, hsz⟩ := hrel
    by_cases hlt : k < N
    · go_wp2_with (go_at_call 11; refine (grow_any w.heap.size k L _ (by omega) hsz hinv).mono ?_; rintro e w' ⟨rfl, hinv', hb'⟩)
      go_roundw
      case rel => exact ⟨k + 1, by omega, by go_num, ⟨_, hinv'⟩, hbel.trans hb', by have := hb'.size; omega⟩
      case measure => simp [intOf]; omega
    · obtain rfl : k = N := by omega
      rcases Nat.eq_zero_or_pos k with rfl | hpos
      · obtain ⟨c3, c4⟩ := hinv.zero
        go_wp2_with fail
        refine wp_loop_rounds 1 ?_
        rw [rounds_succ]
        go_wp2
        go_ret
        exact ⟨rfl, hbel⟩
      · obtain ⟨m, ln, O, capO, hl1, hl2, hlm, c3, c4, hfull, g, cap, hlast⟩ := hinv.outer hpos
        clear hinv L hk hlt hpos
        go_wp2_with fail
        go_loop [9, 10] (fun j _ => ∃ q : Nat, q ≤ m + 1 ∧ j = .int .i64 q) (fun j _ => m + 1 - (intOf j).toNat)
        case atStart => exact ⟨0, by omega, rfl⟩
        case round =>
          obtain ⟨q, hq, rfl⟩ := hrel
          by_cases hlt : q < m + 1
          · by_cases hqm : q < m
            · obtain ⟨gq, cq, cell⟩ := hfull q hqm
              go_wp2
              go_round
              case rel => exact ⟨q + 1, by omega, by go_num⟩
              case measure => simp [intOf]; omega
            · obtain rfl : q = m := by omega
              go_wp2
              go_round
              case rel => exact ⟨q + 1, by omega, by go_num⟩
              case measure => simp [intOf]
          · go_wp2
            go_ret
            exact ⟨rfl, hbel⟩
end Go.Proofs.Ybulkayeq
