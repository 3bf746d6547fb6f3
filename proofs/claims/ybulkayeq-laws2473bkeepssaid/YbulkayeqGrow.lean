import Derived.Test.YbulkayeqTree
import Derived.Deep.Cut
import Derived.Deep.CutRange
namespace Go.Proofs.Ybulkayeq
open Go.RowKit

theorem ret_int {k : IntKind} {a b : Int} (h : a = b) : Ending.returned (.int k a) = .returned (.int k b) := by rw [h]

theorem z7_at (w : World) : ∀ (j : Nat) (u : Value), Z7[j]? = some u → (w.alloc (.cells #[.int .u64 0, .int .u64 0, .int .u64 0, .int .i32 0, .int .i32 0, .int .i32 0, .int .i32 0] 55)).cell? ((⟨w.heap.size, 0, none⟩ : Addr).add j) = some u := by
  intro j u hj
  have hadd : (⟨w.heap.size, 0, none⟩ : Addr).add j = ⟨w.heap.size, j, none⟩ := by unfold Addr.add; split <;> simp_all
  rw [hadd, World.cell?_alloc_at _ _ _ _ rfl]
  rw [← hj]
  simp [Z7]

theorem z7_one : ∀ u ∈ Z7, u.oneCell' = true := by
  intro u hu
  simp [Z7] at hu
  rcases hu with rfl | rfl <;> rfl

set_option maxRecDepth 100000 in
set_option maxHeartbeats 400000 in
theorem grow_core (B T n len : Nat) (L : List Value) (O capO : Nat) (vi : Value) (Bl : Nat) (xs : List Value) (w : World) (hn : n ≤ 8) (hlen : len < 1024) (hB : B ≤ w.heap.size) (hvi : vi ≠ .slice none 0 0) (h : TS B T n len L O capO vi Bl xs w) :
    Calls Yba.prog 11 #[.pointer (some ⟨T, 0, none⟩)] w fun e w' => e = .returned (.int .i32 ((n * 1024 + len : Nat) : Int)) ∧
      (∃ v', v' ≠ .slice none 0 0 ∧ TS B T n (len + 1) (L ++ Z7) O capO v' Bl xs w') ∧ Below B w w' := by
  obtain ⟨g, cap, rfl⟩ := own_slice h.hI hvi
  obtain ⟨ct, ff, cO, fO, _⟩ := h.cells
  have hI := h.hI
  have hBlw := h.hBlw
  obtain ⟨i0, hi, hz0, hz1, hz2⟩ := info_parts Yba.info55
  have hb : ((len : Int) == 1024) = false := by simp; omega
  go_enter Yba.func11, Yba.ntmps11
  go_wp2_with (at_builtin; refine wpList_append_own _ rfl (.tmp 50) (.tmp 52) 68 rfl Bl 55 i0 _ 7 40 Yba.underlying68 hi hz0 hz1 hz2 rfl (by decide) _ _ _ rfl (hI.alloc _) ⟨w.heap.size, 0, none⟩ 1 1 Z7 rfl rfl (z7_at w) z7_one ?c3 ?c4 ?c5 ?_)
  case c3 => unfold maxLen; omega
  case c4 => omega
  case c5 => simp; omega
  intro v' w1 hown hg hne
  have hne' : v' ≠ .slice none 0 0 := by simpa using hne
  obtain ⟨hT1, hO1, hf1, cO1, fO1⟩ := h.after hg
  have R := h.next hB hg hown
  obtain ⟨g', cap', rfl⟩ := own_slice hown hne'
  clear hne hown hg hO1 hf1 ct ff cO fO hI
  go_wp2
  go_ret
  exact ⟨ret_int (by omega), ⟨_, hne', R.1⟩, R.2⟩

theorem one_at (w : World) (x : Value) : ∀ (j : Nat) (u : Value), [x][j]? = some u → (w.alloc (.cells #[x] 68)).cell? ((⟨w.heap.size, 0, none⟩ : Addr).add j) = some u := by
  intro j u hj
  match j, hj with
  | 0, hj => simp at hj; subst hj; simp [Addr.add]

set_option maxRecDepth 100000 in
set_option maxHeartbeats 400000 in
theorem grow_first (B T : Nat) (w : World) (hB : B ≤ w.heap.size) (hBT : B ≤ T) (hT : w.heap[T]? = some (treeObj (.slice none 0 0))) :
    Calls Yba.prog 11 #[.pointer (some ⟨T, 0, none⟩)] w fun e w' => e = .returned (.int .i32 0) ∧
      (∃ O capO v' Bl, v' ≠ .slice none 0 0 ∧ TS B T 0 1 Z7 O capO v' Bl [] w') ∧ Below B w w' := by
  obtain ⟨ct, _, ff⟩ := tree_cell hT
  obtain ⟨i0, hi, hz0, hz1, hz2⟩ := info_parts Yba.info55
  obtain ⟨i1, gi, gz0, gz1, gz2⟩ := info_parts Yba.info68
  have hTl := heap_lt hT
  go_enter Yba.func11, Yba.ntmps11
  go_wp2_with (at_builtin; refine wpList_append_own _ rfl (.tmp 32) (.tmp 34) 64 rfl B 68 i1 _ 1 24 Yba.underlying64 gi gz0 gz1 gz2 rfl (by decide) _ _ _ rfl (World.ownsRow_nil _ _ _ _) ⟨w.heap.size, 0, none⟩ 1 1 [.slice none 0 0] rfl rfl (one_at w _) ?c2 ?c3 ?c4 ?c5 ?_)
  case c2 => intro u hu; simp at hu; subst hu; rfl
  case c3 => decide
  case c4 => decide
  case c5 => simp; omega
  intro v2 w2 hown hg hne
  have hne' : v2 ≠ .slice none 0 0 := by simpa using hne
  have hT2 : w2.heap[T]? = some (treeObj (.slice none 0 0)) := by
    rw [hg.block T (by simp; omega) (by simp [Value.ownBlock]), heap_alloc_old _ _ hTl]; exact hT
  obtain ⟨O, cap, rfl, hts, hbel⟩ := TS.first hBT hT hB hg hown hne'
  obtain ⟨ct2, _, ff2⟩ := tree_cell hT2
  clear hne hown hg ct ff hT hT2
  go_upto_region 7 with fail
  clear ct2 ff2
  generalize hw3 : w2.setCell { block := T, off := 3 } (Value.slice (some { block := O, off := 0 }) 1 cap) = w3 at *
  clear hw3
  obtain ⟨ct3, ff3, cO3, fO3, _⟩ := hts.cells
  have hI := hts.hI
  go_wp2_with (at_builtin; refine wpList_append_own _ rfl (.tmp 50) (.tmp 52) 68 rfl B 55 i0 _ 7 40 Yba.underlying68 hi hz0 hz1 hz2 rfl (by decide) _ _ _ rfl (hI.alloc _) ⟨w3.heap.size, 0, none⟩ 1 1 Z7 rfl rfl (z7_at w3) z7_one ?d3 ?d4 ?d5 ?_)
  case d3 => decide
  case d4 => decide
  case d5 => have := hts.hBlw; simp; omega
  intro v' w4 hown hg hne
  have hne4 : v' ≠ .slice none 0 0 := by simpa using hne
  obtain ⟨_, _, _, cO1, fO1⟩ := hts.after hg
  have R := hts.next hts.hBlw hg (by simpa using hown)
  obtain ⟨g', cap', rfl⟩ := own_slice hown hne4
  clear hne hown hg ct3 ff3 cO3 fO3 hI
  go_wp2
  go_ret
  exact ⟨rfl, ⟨_, _, _, _, hne4, R.1⟩, hbel.trans R.2⟩

set_option maxRecDepth 100000 in
set_option maxHeartbeats 400000 in
theorem grow_more (B T n : Nat) (L : List Value) (O capO : Nat) (vi : Value) (Bl : Nat) (xs : List Value) (w : World) (hn : n ≤ 8) (hB : B ≤ w.heap.size) (hvi : vi ≠ .slice none 0 0) (h : TS B T n 1024 L O capO vi Bl xs w) :
    Calls Yba.prog 11 #[.pointer (some ⟨T, 0, none⟩)] w fun e w' => e = .returned (.int .i32 (((n + 1) * 1024 : Nat) : Int)) ∧
      (∃ O capO v' Bl xs, v' ≠ .slice none 0 0 ∧ TS B T (n + 1) 1 (L ++ Z7) O capO v' Bl xs w') ∧ Below B w w' := by
  obtain ⟨g, cap, rfl⟩ := own_slice h.hI hvi
  obtain ⟨ct, ff, cO, fO, _⟩ := h.cells
  have hO := h.hO
  have hTl := heap_lt h.hT
  have hT := h.hT
  obtain ⟨i0, hi, hz0, hz1, hz2⟩ := info_parts Yba.info55
  obtain ⟨i1, gi, gz0, gz1, gz2⟩ := info_parts Yba.info68
  have hb0 : (((n : Int) + 1) == 0) = false := by simp; omega
  go_enter Yba.func11, Yba.ntmps11
  go_wp2_with (at_make; refine wpList_make_own _ rfl _ _ 68 rfl w.heap.size 55 i0 _ 7 Yba.underlying68 hi hz0 hz1 .i64 .i64 1024 1024 rfl rfl rfl ?m1 ?m2 (Nat.le_refl _) ?_)
  case m1 => rw [hz2]; decide
  case m2 => decide
  intro wm hnew hm
  have hTO : some T ≠ some O := by
    obtain ⟨_, curO, hOb, _⟩ := own_block hO
    intro e
    simp at e
    subst e
    rw [hT] at hOb
    simp [treeObj] at hOb
  have ctm := hm.cell ct (by simp)
  have hOm : wm.ownsRow B 68 1 _ _ _ := hO.kept hm (.inr (by simp [Value.ownBlock]))
  go_wp2_with (at_builtin; refine wpList_append_own _ rfl (.tmp 32) (.tmp 34) 64 rfl B 68 i1 _ 1 24 Yba.underlying64 gi gz0 gz1 gz2 rfl (by decide) _ _ _ rfl (hOm.alloc _) ⟨wm.heap.size, 0, none⟩ 1 1 [.slice (some ⟨w.heap.size, 0, none⟩) 0 1024] rfl rfl (one_at wm _) ?c2 ?c3 ?c4 ?c5 ?_)
  case c2 => intro u hu; simp at hu; subst hu; rfl
  case c3 => unfold maxLen; omega
  case c4 => omega
  case c5 => have := hm.size; simp; omega
  intro v2 w2 hown hg hne
  have hne' : v2 ≠ .slice none 0 0 := by simpa using hne
  have hT2 : w2.heap[T]? = some (treeObj (.slice (some ⟨O, 0, none⟩) (n + 1) capO)) := by
    have hs := hm.size
    rw [hg.block T (by simp; omega) (by simpa [Value.ownBlock] using hTO), heap_alloc_old _ _ (by omega), hm.block T hTl (by simp)]; exact hT
  obtain ⟨O2, cap2, rfl, hts, hbel⟩ := h.more hvi hB hm hnew hg (by simpa using hown) hne'
  obtain ⟨ct2, _, ff2⟩ := tree_cell hT2
  clear hne hown hg ct ff hT hT2 hnew hm hO hOm ctm cO fO hTO h
  go_upto_region 7 with fail
  clear ct2 ff2
  generalize hw3 : w2.setCell { block := T, off := 3 } (Value.slice (some { block := O2, off := 0 }) (n + 2) cap2) = w3 at *
  clear hw3
  obtain ⟨ct3, ff3, cO3, fO3, _⟩ := hts.cells
  have hI := hts.hI
  have hw3 := hbel.size
  go_wp2_with (at_builtin; refine wpList_append_own _ rfl (.tmp 50) (.tmp 52) 68 rfl w.heap.size 55 i0 _ 7 40 Yba.underlying68 hi hz0 hz1 hz2 rfl (by decide) _ _ _ rfl (hI.alloc _) ⟨w3.heap.size, 0, none⟩ 1 1 Z7 rfl rfl (z7_at w3) z7_one ?d3 ?d4 ?d5 ?_)
  case d3 => decide
  case d4 => decide
  case d5 => simp; omega
  intro v' w4 hown hg hne
  have hne4 : v' ≠ .slice none 0 0 := by simpa using hne
  obtain ⟨_, _, _, cO1, fO1⟩ := hts.after hg
  have R := hts.next (by omega) hg (by simpa using hown)
  obtain ⟨g', cap', rfl⟩ := own_slice hown hne4
  clear hne hown hg ct3 ff3 cO3 fO3 hI
  go_wp2
  go_ret
  exact ⟨ret_int (by omega), ⟨_, _, _, _, _, hne4, R.1⟩, hbel.trans R.2⟩
end Go.Proofs.Ybulkayeq
