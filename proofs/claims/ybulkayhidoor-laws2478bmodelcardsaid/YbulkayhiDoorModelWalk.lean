import Derived.Test.YbulkayhiDoorDeg
import Derived.Deep.RegionWith
namespace Go.Proofs.YbulkayhiDoor
open Go Go.RowKit

set_option maxRecDepth 100000 in
set_option maxHeartbeats 1000000 in
theorem model_walk (a b : Int) (w : World) (a0 : -2147483648 ≤ a) (a1 : a ≤ 2147483647) (b0 : -2147483648 ≤ b) (b1 : b ≤ 2147483647) (htab : Lib.TabIs Ybad.prog w "internal/strconv.uint64pow10" .u64 Lib.pow10Tab) :
    Calls Ybad.prog 3 #[.int .i32 a, .int .i32 b] w fun e w' => e = .returned (.bool true) ∧ Below w.heap.size w w' := by
  obtain ⟨i0, hi, hz0, hz1, hz2⟩ := info_parts Ybad.info5
  have hT : Tab w.heap.size w := Lib.tabBelow_of_tabIs htab
  have hnx0 : Below w.heap.size w (w.alloc (.cells #[.int .i32 a, .int .i32 b] 23)) := (Below.refl _ _).alloc (Nat.le_refl _) _
  have la := degL_length a (by omega)
  have lb := degL_length b (by omega)
  clear htab
  go_enter Ybad.func3, Ybad.ntmps3
  go_wp2_with fail
  refine (deg_any (w.heap.size + 1) 0 a (.slice none 0 0) [] _ a0 a1 (World.ownsRow_nil _ _ _ _) (by simp) (by omega)).mono ?_
  rintro e w1 ⟨v1, L1, rfl, hL1, hown1, hnx1⟩
  rw [Nat.zero_add, List.nil_append] at hown1
  have hs1 := hnx1.size
  simp at hs1
  have HL1 : Hid (L1 = degL a) := hL1
  have l1 : L1.length ≤ 12 := by rw [hL1]; exact la.2
  have l1' : 9 ≤ L1.length := by rw [hL1]; exact la.1
  clear hL1
  go_wp2_with (at_builtin; refine wpList_append_own _ rfl (.tmp 13) (.tmp 14) 24 rfl (w.heap.size + 1) 5 i0 _ 1 1 Ybad.underlying24 hi hz0 hz1 hz2 rfl (by decide) v1 _ _ rfl (hown1.alloc _) ⟨w1.heap.size, 0, none⟩ 1 1 [.int .u8 32] rfl rfl (byte_at w1 _) (byte_one _) ?c3 ?c4 ?c5 ?_)
  case c3 => unfold maxLen; omega
  case c4 => omega
  case c5 => simp; omega
  intro v2 w2 hown2 hg2 _
  have hnx2 : Below (w.heap.size + 1) w1 w2 := ((Below.refl _ w1).alloc (by omega) _).grown hg2 (by simp; omega) (fun k hk => (hown1.lt k hk).1)
  have hs2 := hnx2.size
  go_wp2_with fail
  refine (deg_any (w.heap.size + 1) (L1.length + 1) b v2 _ w2 b0 b1 hown2 (by omega) (by omega)).mono ?_
  rintro e w3 ⟨v3, L2, rfl, hL2, hown3, hnx3⟩
  have hs3 := hnx3.size
  have hnxw : Below w.heap.size w w3 := hnx0.trans (((hnx1.trans hnx2).trans hnx3).mono (by omega))
  have HcT := Lib.hid (hT.on hnxw.drew).here
  have hc0 : w3.cell? ⟨w.heap.size, 0, none⟩ = some (.int .i32 a) := (((hnx1.trans hnx2).trans hnx3).cell (p := ⟨w.heap.size, 0, none⟩) (by simp)).trans (by simp [go_sem])
  have hc1 : w3.cell? ⟨w.heap.size, 1, none⟩ = some (.int .i32 b) := (((hnx1.trans hnx2).trans hnx3).cell (p := ⟨w.heap.size, 1, none⟩) (by simp)).trans (by simp [go_sem])
  obtain ⟨l, hl⟩ : ∃ l, l = placeL a b := ⟨_, rfl⟩
  have hl2 : l = L1 ++ 32 :: L2 := by rw [hl, HL1.out, hL2]; rfl
  have eL : Lib.byteCells L1 ++ [Value.int .u8 32] ++ Lib.byteCells L2 = Lib.byteCells l := by rw [hl2]; simp [Lib.byteCells]
  have eN : L1.length + 1 + L2.length = l.length := by rw [hl2]; simp; omega
  rw [eL, eN] at hown3
  have hpos : 0 < l.length := by omega
  have cS : ∀ W, Lib.TabIs Ybad.prog W "internal/strconv.uint64pow10" .u64 Lib.pow10Tab → Calls Ybad.prog 6 #[.agg #[.int .i32 a, .int .i32 b]] W fun e w' => e = .returned (.string ⟨l.toArray⟩) ∧ Below W.heap.size W w' := by
    intro W hW
    rw [hl]
    exact string_any a b W a0 a1 b0 b1 hW
  have HcS := Lib.hid cS
  clear hl hl2 eL eN hL2 cS HL1 hown2 hown1 hg2 hnx1 hnx2 hnx3 hnx0
  rcases hown3.2 with ⟨-, h0⟩ | ⟨g, cap, cur, rfl, -, -, -, -, -, -⟩
  · omega
  · have hcv := run_convert_bytes_back (P := Ybad.prog) w3.drew 24 9 5 ⟨g, 0, none⟩ cap l Ybad.underlying24 Ybad.underlying5 Ybad.underlying9 (fun j hj => hown3.cells (g := g) rfl j _ (by simp [Lib.byteCells, hj]))
    go_wp2_with fail
    go_region_with (go_at_call 6; refine (HcS.out w3.drew HcT.out).mono ?_; rintro e w4 ⟨rfl, hnx4⟩; have hcv4 := run_convert_bytes_back (P := Ybad.prog) w4 24 9 5 ⟨g, 0, none⟩ cap l Ybad.underlying24 Ybad.underlying5 Ybad.underlying9 (fun j hj => (own_below hown3.drew hnx4).cells (g := g) rfl j _ (by simp [Lib.byteCells, hj])))
    all_goals
      go_wp2
      go_ret
      exact ⟨rfl, hnxw.drew.trans (hnx4.mono (by show w.heap.size ≤ w3.heap.size; omega))⟩
end Go.Proofs.YbulkayhiDoor
