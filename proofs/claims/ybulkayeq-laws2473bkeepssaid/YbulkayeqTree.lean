import Derived.Test.YbulkayeqRows
import Derived.WalkKit
namespace Go.Proofs.Ybulkayeq
open Go.RowKit

theorem Yba.info55 : (Yba.prog.info? 55).map (fun i => (i.zero, i.size, i.bytes)) = some (some (.agg #[.int .u64 0, .int .u64 0, .int .u64 0, .int .i32 0, .int .i32 0, .int .i32 0, .int .i32 0]), 7, 40) := by kernel_rfl
theorem Yba.info68 : (Yba.prog.info? 68).map (fun i => (i.zero, i.size, i.bytes)) = some (some (.slice none 0 0), 1, 24) := by kernel_rfl

/-- a zero node's seven cells -/
def Z7 : List Value := [.int .u64 0, .int .u64 0, .int .u64 0, .int .i32 0, .int .i32 0, .int .i32 0, .int .i32 0]

/-- the tree's own block; v: its field 'blocks' -/
def treeObj (v : Value) : Obj := .cells #[.slice none 0 0, .slice none 0 0, .int .u64 0, v, .int .i32 (-1)] 66 (0, 0)

theorem tree_cell {w : World} {T : Nat} {v : Value} (h : w.heap[T]? = some (treeObj v)) : w.cell? ⟨T, 3, none⟩ = some v ∧ w.cell? ⟨T, 4, none⟩ = some (.int .i32 (-1)) ∧ w.frozen? ⟨T, 3, none⟩ = false := by
  simp [World.cell?, World.frozen?, h, treeObj]

theorem tree_set {w : World} {T : Nat} {v : Value} (h : w.heap[T]? = some (treeObj v)) (u : Value) : (w.setCell ⟨T, 3, none⟩ u).heap[T]? = some (treeObj u) := by
  have := heap_setCell_same w T 3 _ _ u h
  simpa [treeObj] using this

/-- THE TREE IN MEMORY: n full blocks and one of len nodes behind them; L: all nodes' cells, one behind the other; vi: the last block's slice -/
structure TS (B T n len : Nat) (L : List Value) (O capO : Nat) (vi : Value) (Bl : Nat) (xs : List Value) (w : World) : Prop where
  hBT : B ≤ T
  hT : w.heap[T]? = some (treeObj (.slice (some ⟨O, 0, none⟩) (n + 1) capO))
  hO : w.ownsRow B 68 1 (.slice (some ⟨O, 0, none⟩) (n + 1) capO) (n + 1) (xs ++ [vi])
  hfull : ∀ j, j < n → ∃ gj cj cur, xs[j]? = some (.slice (some ⟨gj, 0, none⟩) 1024 cj) ∧ gj < Bl ∧ w.heap[gj]? = some (.cells cur 55 (0, 0)) ∧ cur.toList.take 7168 = (L.drop (j * 7168)).take 7168
  hI : w.ownsRow Bl 55 7 vi len (L.drop (n * 7168))
  hBBl : B ≤ Bl
  hBlw : Bl ≤ w.heap.size
  hL : L.length = (n * 1024 + len) * 7

theorem own_block {w : World} {base : Nat} {e : TypeId} {size : Nat} {g n cap : Nat} {xs : List Value} (h : w.ownsRow base e size (.slice (some ⟨g, 0, none⟩) n cap) n xs) :
    base ≤ g ∧ ∃ cur, w.heap[g]? = some (.cells cur e (0, 0)) ∧ n ≤ cap ∧ cur.size = cap * size ∧ cur.toList.take (n * size) = xs := by
  rcases h.2 with ⟨h', _⟩ | ⟨g', cap', cur, h', hb, hg, hnc, hcm, hcs, htake⟩
  · simp at h'
  · simp only [Value.slice.injEq, Option.some.injEq, Addr.mk.injEq, and_true, true_and] at h'
    obtain ⟨rfl, rfl⟩ := h'
    exact ⟨hb, cur, hg, hnc, hcs, htake⟩

/-- a block of another kind is not the slice's own -/
theorem own_ne {w : World} {base : Nat} {e : TypeId} {size : Nat} {v : Value} {n : Nat} {xs : List Value} (h : w.ownsRow base e size v n xs) {k : Nat} {cs : Array Value} {t : TypeId} {fr : Nat × Nat}
    (hk : w.heap[k]? = some (.cells cs t fr)) (hne : t ≠ e) : some k ≠ v.ownBlock := by
  rcases h.2 with ⟨rfl, _⟩ | ⟨g, cap, cur, rfl, _, hg, _⟩
  · simp [Value.ownBlock]
  · simp only [Value.ownBlock, ne_eq, Option.some.injEq]
    intro e1
    subst e1
    rw [hg] at hk
    simp at hk
    exact hne hk.2.1.symm

theorem own_slice {w : World} {base : Nat} {e : TypeId} {size : Nat} {v : Value} {n : Nat} {xs : List Value} (h : w.ownsRow base e size v n xs) (hv : v ≠ .slice none 0 0) :
    ∃ g cap, v = .slice (some ⟨g, 0, none⟩) n cap := by
  rcases h.2 with ⟨rfl, _⟩ | ⟨g, cap, cur, rfl, _⟩
  · exact absurd rfl hv
  · exact ⟨g, cap, rfl⟩

theorem heap_lt {w : World} {k : Nat} {o : Obj} (h : w.heap[k]? = some o) : k < w.heap.size := (Array.getElem?_eq_some_iff.1 h).1

section
variable {B T n len : Nat} {L : List Value} {O capO : Nat} {vi : Value} {Bl : Nat} {xs : List Value} {w : World}

theorem TS.cells (h : TS B T n len L O capO vi Bl xs w) : w.cell? ⟨T, 3, none⟩ = some (.slice (some ⟨O, 0, none⟩) (n + 1) capO) ∧ w.frozen? ⟨T, 3, none⟩ = false ∧ w.cell? ⟨O, n, none⟩ = some vi ∧ w.frozen? ⟨O, n, none⟩ = false ∧ xs.length = n := by
  have hxl : xs.length = n := by have := h.hO.1; simp at this; omega
  refine ⟨(tree_cell h.hT).1, (tree_cell h.hT).2.2, ?_, h.hO.frozenAt n, hxl⟩
  rw [h.hO.cellAt n (by omega), List.getElem?_append_right (by omega)]
  simp [hxl]

/-- new memory, and writes into the last block alone -/
theorem TS.after (h : TS B T n len L O capO vi Bl xs w) {o : Obj} {w1 : World} (hg : (w.alloc o).grownBy w1 vi.ownBlock) :
    w1.heap[T]? = some (treeObj (.slice (some ⟨O, 0, none⟩) (n + 1) capO)) ∧ w1.ownsRow B 68 1 (.slice (some ⟨O, 0, none⟩) (n + 1) capO) (n + 1) (xs ++ [vi]) ∧
    (∀ j, j < n → ∃ gj cj cur, xs[j]? = some (.slice (some ⟨gj, 0, none⟩) 1024 cj) ∧ gj < Bl ∧ w1.heap[gj]? = some (.cells cur 55 (0, 0)) ∧ cur.toList.take 7168 = (L.drop (j * 7168)).take 7168) ∧
    w1.cell? ⟨O, n, none⟩ = some vi ∧ w1.frozen? ⟨O, n, none⟩ = false := by
  obtain ⟨_, curO, hOb, _⟩ := own_block h.hO
  have hT1 : w1.heap[T]? = some (treeObj (.slice (some ⟨O, 0, none⟩) (n + 1) capO)) := by
    rw [hg.block T (by simp; have := heap_lt h.hT; omega) (own_ne h.hI h.hT (by decide)), heap_alloc_old _ _ (heap_lt h.hT)]
    exact h.hT
  have hO1 : w1.ownsRow B 68 1 (.slice (some ⟨O, 0, none⟩) (n + 1) capO) (n + 1) (xs ++ [vi]) := by
    refine (h.hO.alloc o).kept hg (.inr ?_)
    simpa [Value.ownBlock] using own_ne h.hI hOb (by decide)
  refine ⟨hT1, hO1, ?_, ?_, hO1.frozenAt n⟩
  · intro j hj
    obtain ⟨gj, cj, cur, h1, h2, h3, h4⟩ := h.hfull j hj
    refine ⟨gj, cj, cur, h1, h2, ?_, h4⟩
    rw [hg.block gj (by simp; have := heap_lt h3; omega) ?_, heap_alloc_old _ _ (heap_lt h3)]
    · exact h3
    · intro e
      have := h.hI.lt gj e.symm
      omega
  · have hxl := h.cells.2.2.2.2
    rw [hO1.cellAt n (by omega), List.getElem?_append_right (by omega)]
    simp [hxl]

/-- a node more, behind the last one -/
theorem TS.next (h : TS B T n len L O capO vi Bl xs w) {o : Obj} {w1 : World} {v' : Value} (hB : B ≤ w.heap.size) (hg : (w.alloc o).grownBy w1 vi.ownBlock) (hv : w1.ownsRow Bl 55 7 v' (len + 1) (L.drop (n * 7168) ++ Z7)) :
    TS B T n (len + 1) (L ++ Z7) O capO v' Bl xs (w1.setCell ⟨O, n, none⟩ v') ∧ Below B w (w1.setCell ⟨O, n, none⟩ v') := by
  obtain ⟨hT1, hO1, hf1, _, _⟩ := h.after hg
  obtain ⟨hBO, curO, hOb, _⟩ := own_block hO1
  have hxl := h.cells.2.2.2.2
  have hTO : T ≠ O := fun e => by subst e; rw [hT1] at hOb; simp [treeObj] at hOb
  have hL := h.hL
  have hsz := hg.size
  simp at hsz
  refine ⟨⟨h.hBT, ?_, ?_, ?_, ?_, h.hBBl, ?_, ?_⟩, ?_⟩
  · rw [heap_setCell_other _ _ _ _ hTO]; exact hT1
  · have := (hO1.stored n v').1
    rwa [List.set_append_right _ _ (by omega), hxl, Nat.sub_self, List.set_cons_zero] at this
  · intro j hj
    obtain ⟨gj, cj, cur, h1, h2, h3, h4⟩ := hf1 j hj
    refine ⟨gj, cj, cur, h1, h2, ?_, ?_⟩
    · rw [heap_setCell_other]
      · exact h3
      · intro e; subst e; rw [h3] at hOb; simp at hOb
    · rw [h4, List.drop_append_of_le_length (by omega), List.take_append_of_le_length (by simp; omega)]
  · rw [List.drop_append_of_le_length (by omega)]
    exact ownsRow_setCell_other hv (fun e => own_ne hv hOb (by decide) e.symm) _
  · have := h.hBlw
    simp; omega
  · simp [Z7]; omega
  · refine (((Below.refl B w).alloc hB o).grown hg (by simp; omega) ?_).setCell hBO _
    intro k hk
    have := h.hI.lt k hk
    have := h.hBBl
    omega

/-- the last block is full: a new one behind it, made for 1,024 nodes -/
theorem TS.more (h : TS B T n 1024 L O capO vi Bl xs w) (hvi : vi ≠ .slice none 0 0) {o : Obj} {wm w2 : World} {vn v2 : Value} (hB : B ≤ w.heap.size) (hm : w.grownBy wm none) (hn : wm.ownsRow w.heap.size 55 7 vn 0 [])
    (hg : (wm.alloc o).grownBy w2 (some O)) (h2 : w2.ownsRow B 68 1 v2 (n + 2) (xs ++ [vi] ++ [vn])) (hv2 : v2 ≠ .slice none 0 0) :
    ∃ O' cap', v2 = .slice (some ⟨O', 0, none⟩) (n + 2) cap' ∧ TS B T (n + 1) 0 L O' cap' vn w.heap.size (xs ++ [vi]) (w2.setCell ⟨T, 3, none⟩ v2) ∧ Below B w (w2.setCell ⟨T, 3, none⟩ v2) := by
  obtain ⟨hBO, curO, hOb, _⟩ := own_block h.hO
  have hxl := h.cells.2.2.2.2
  have hTO : T ≠ O := fun e => by have := h.hT; subst e; rw [this] at hOb; simp [treeObj] at hOb
  have hL := h.hL
  have hs1 := hm.size
  have hs2 := hg.size
  simp at hs2
  have kept : ∀ k, k < w.heap.size → k ≠ O → w2.heap[k]? = w.heap[k]? := by
    intro k hk hne
    rw [hg.block k (by simp; omega) (by simpa using hne), heap_alloc_old _ _ (by omega), hm.block k hk (by simp)]
  have hT2 := (kept T (heap_lt h.hT) hTO).trans h.hT
  obtain ⟨O', cap', rfl⟩ := own_slice h2 hv2
  obtain ⟨hBO', curO', hOb', _⟩ := own_block h2
  have hTO' : T ≠ O' := fun e => by subst e; rw [hT2] at hOb'; simp [treeObj] at hOb'
  refine ⟨O', cap', rfl, ⟨h.hBT, tree_set hT2 _, ?_, ?_, ?_, hB, by simp; omega, by omega⟩, ?_⟩
  · exact ownsRow_setCell_other h2 (by simp [Value.ownBlock]; omega) _
  · intro j hj
    by_cases hjn : j < n
    · obtain ⟨gj, cj, cur, h1, h2, h3, h4⟩ := h.hfull j hjn
      have hlt := heap_lt h3
      refine ⟨gj, cj, cur, by rw [List.getElem?_append_left (by omega)]; exact h1, hlt, ?_, h4⟩
      rw [heap_setCell_other, kept gj hlt]
      · exact h3
      · intro e; subst e; rw [h3] at hOb; simp at hOb
      · intro e; subst e; have := h.hT; rw [h3] at this; simp [treeObj] at this
    · obtain rfl : j = n := by omega
      obtain ⟨g, cap, rfl⟩ := own_slice h.hI hvi
      obtain ⟨_, cur, hgb, _, _, htk⟩ := own_block h.hI
      have hlt := heap_lt hgb
      have hgO : g ≠ O := by intro e; subst e; rw [hgb] at hOb; simp at hOb
      refine ⟨g, cap, cur, by rw [List.getElem?_append_right (by omega)]; simp [hxl], hlt, ?_, ?_⟩
      · rw [heap_setCell_other, kept g hlt hgO]
        · exact hgb
        · intro e; subst e; have := h.hT; rw [hgb] at this; simp [treeObj] at this
      · rw [show (7168 : Nat) = 1024 * 7 from rfl, htk, List.take_of_length_le (by simp; omega)]
  · rw [List.drop_of_length_le (by omega)]
    refine ownsRow_setCell_other ((hn.alloc o).kept hg ?_) ?_ _
    · right; intro e
      have := hn.lt O e
      have := heap_lt hOb
      omega
    · intro e
      have := hn.lt T e
      have := heap_lt h.hT
      omega
  · refine (((((Below.refl B w).grown hm hB (by simp))).alloc (by omega) o).grown hg (by simp; omega) ?_).setCell h.hBT _
    intro k hk
    simp at hk
    omega

end

/-- the empty tree: its first block -/
theorem TS.first {B T : Nat} {w w2 : World} {o : Obj} {v2 : Value} (hBT : B ≤ T) (hT : w.heap[T]? = some (treeObj (.slice none 0 0))) (hB : B ≤ w.heap.size) (hg : (w.alloc o).grownBy w2 none) (h2 : w2.ownsRow B 68 1 v2 1 [.slice none 0 0]) (hv2 : v2 ≠ .slice none 0 0) :
    ∃ O' cap', v2 = .slice (some ⟨O', 0, none⟩) 1 cap' ∧ TS B T 0 0 [] O' cap' (.slice none 0 0) B [] (w2.setCell ⟨T, 3, none⟩ v2) ∧ Below B w (w2.setCell ⟨T, 3, none⟩ v2) := by
  have hs2 := hg.size
  simp at hs2
  have hT2 : w2.heap[T]? = some (treeObj (.slice none 0 0)) := by
    rw [hg.block T (by simp; have := heap_lt hT; omega) (by simp), heap_alloc_old _ _ (heap_lt hT)]; exact hT
  obtain ⟨O', cap', rfl⟩ := own_slice h2 hv2
  obtain ⟨hBO', curO', hOb', _⟩ := own_block h2
  have hTO' : T ≠ O' := fun e => by subst e; rw [hT2] at hOb'; simp [treeObj] at hOb'
  refine ⟨O', cap', rfl, ⟨hBT, tree_set hT2 _, ?_, ?_, ?_, Nat.le_refl _, by simp; omega, by simp⟩, ?_⟩
  · exact ownsRow_setCell_other h2 (by simp [Value.ownBlock]; omega) _
  · intro j hj; omega
  · exact World.ownsRow_nil _ _ _ _
  · exact (((Below.refl B w).alloc hB o).grown hg (by simp; omega) (by simp)).setCell hBT _
end Go.Proofs.Ybulkayeq
