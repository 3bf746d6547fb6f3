import Derived.Test.YbulkayguDoorSteps
namespace Go.Proofs.YbulkayguDoor
open Go Go.RowKit

theorem flat_len {α : Type} {f : α → List Value} {n : Nat} (hf : ∀ a, (f a).length = n) : ∀ l : List α, (l.flatMap f).length = l.length * n
  | [] => by simp
  | a :: r => by rw [List.flatMap_cons, List.length_append, hf, flat_len hf r, List.length_cons, Nat.succ_mul]; omega
theorem flat_get {α : Type} {f : α → List Value} {n : Nat} (hf : ∀ a, (f a).length = n) : ∀ (l : List α) (i j : Nat) (a : α) (u : Value), l[i]? = some a → (f a)[j]? = some u → (l.flatMap f)[i * n + j]? = some u
  | [], i, j, a, u, h, _ => by simp at h
  | b :: r, 0, j, a, u, h, hu => by
    simp at h
    subst h
    have hj : j < (f b).length := (List.getElem?_eq_some_iff.1 hu).1
    rw [List.flatMap_cons, Nat.zero_mul, Nat.zero_add, List.getElem?_append_left hj]
    exact hu
  | b :: r, i + 1, j, a, u, h, hu => by
    have h' : r[i]? = some a := by simpa using h
    have := flat_get hf r i j a u h' hu
    rw [List.flatMap_cons, List.getElem?_append_right (by rw [hf, Nat.succ_mul]; omega), hf]
    rw [show (i + 1) * n + j - n = i * n + j by rw [Nat.succ_mul]; omega]
    exact this

def ivCells (p : Int × Int) : List Value := [.int .i64 p.1, .int .i64 p.2]
theorem ivCells_len (p : Int × Int) : (ivCells p).length = 2 := rfl
def qCells (q : Src × Value) : List Value := srcCells q.1 q.2
theorem qCells_len (q : Src × Value) : (qCells q).length = 18 := rfl

/-- the intervals' row of one source, whole -/
def IvRow (w : World) (v : Value) (ivs : List (Int × Int)) : Prop :=
  ∃ G cap C fz, v = .slice (some ⟨G, 0, none⟩) ivs.length cap ∧ w.heap[G]? = some (.cells C 44 fz) ∧ ∀ (j : Nat) (p : Int × Int), ivs[j]? = some p → C[j * 2]? = some (.int .i64 p.1) ∧ C[j * 2 + 1]? = some (.int .i64 p.2)

theorem IvRow.of_own {w : World} {B : Nat} {v : Value} {ivs : List (Int × Int)} (h : w.ownsRow B 44 2 v ivs.length (ivs.flatMap ivCells)) (hne : ivs ≠ []) : IvRow w v ivs := by
  rcases h.2 with ⟨_, h0⟩ | ⟨g, cap, cur, hv, _, hg, _, _, _, htake⟩
  · exact absurd (List.eq_nil_of_length_eq_zero h0) hne
  · refine ⟨g, cap, cur, _, hv, hg, ?_⟩
    have key : ∀ (i : Nat) (u : Value), (ivs.flatMap ivCells)[i]? = some u → cur[i]? = some u := by
      intro i u hu
      rw [← htake, List.getElem?_take] at hu
      split at hu
      · simpa using hu
      · cases hu
    intro j p hp
    exact ⟨key _ _ (flat_get ivCells_len ivs j 0 p _ hp rfl), key _ _ (flat_get ivCells_len ivs j 1 p _ hp rfl)⟩
theorem IvRow.of_heap {w w' : World} {v : Value} {ivs : List (Int × Int)} (h : IvRow w v ivs) (hk : ∀ (k : Nat) C fz, w.heap[k]? = some (.cells C 44 fz) → w'.heap[k]? = w.heap[k]?) : IvRow w' v ivs := by
  obtain ⟨G, cap, C, fz, h1, h2, h3⟩ := h
  exact ⟨G, cap, C, fz, h1, (hk G C fz h2).trans h2, h3⟩
theorem lt_of_heap {w : World} {k : Nat} {o : Obj} (h : w.heap[k]? = some o) : k < w.heap.size := (Array.getElem?_eq_some_iff.1 h).1
theorem IvRow.below {w w' : World} {v : Value} {ivs : List (Int × Int)} (h : IvRow w v ivs) (hb : Below w.heap.size w w') : IvRow w' v ivs :=
  h.of_heap fun k _ _ hk => hb.block k (lt_of_heap hk)
theorem own_ne {w : World} {B size : Nat} {e T : TypeId} {v : Value} {n : Nat} {xs : List Value} {b : Nat} {cs : Array Value} {fr : Nat × Nat} (hown : w.ownsRow B e size v n xs) (hb : w.heap[b]? = some (.cells cs T fr)) (hTe : T ≠ e) : v.ownBlock ≠ some b := by
  rcases hown.2 with ⟨rfl, _⟩ | ⟨g, cap, cur, rfl, _, hg, _⟩
  · simp [Value.ownBlock]
  · intro h
    simp only [Value.ownBlock, Option.some.injEq] at h
    subst h
    rw [hg] at hb
    simp only [Option.some.injEq, Obj.cells.injEq] at hb
    exact hTe hb.2.1.symm
/-- a block of another type than the row's stands when the row grows -/
theorem keep_grown {w w' : World} {B size : Nat} {e T : TypeId} {v : Value} {n : Nat} {xs : List Value} {b : Nat} {cs : Array Value} {fr : Nat × Nat} (hown : w.ownsRow B e size v n xs) (hg : w.grownBy w' v.ownBlock) (hb : w.heap[b]? = some (.cells cs T fr)) (hTe : T ≠ e) : w'.heap[b]? = some (.cells cs T fr) :=
  (hg.block b (lt_of_heap hb) (fun h => own_ne hown hb hTe h.symm)).trans hb

/-- the sources so far, in a row of the call's own -/
def OwnSrc (B : Nat) (w : World) (v : Value) (qs : List (Src × Value)) : Prop :=
  w.ownsRow B 48 18 v qs.length (qs.flatMap qCells) ∧ (∀ q ∈ qs, q.1.Ok) ∧ ∀ q ∈ qs, IvRow w q.2 q.1.ivs

theorem OwnSrc.nil (B : Nat) (w : World) : OwnSrc B w (.slice none 0 0) [] := ⟨⟨rfl, .inl ⟨rfl, rfl⟩⟩, by simp, by simp⟩
theorem OwnSrc.below {B : Nat} {w w' : World} {v : Value} {qs : List (Src × Value)} (h : OwnSrc B w v qs) (hb : Below w.heap.size w w') : OwnSrc B w' v qs :=
  ⟨h.1.kept (grown_of_below hb) (by cases hv : v.ownBlock <;> simp), h.2.1, fun q hq => (h.2.2 q hq).below hb⟩
theorem OwnSrc.push {B : Nat} {w w' : World} {v v' : Value} {qs : List (Src × Value)} (h : OwnSrc B w v qs) (s : Src) (hs : s.Ok) (vi : Value) (hi : IvRow w vi s.ivs) (hg : w.grownBy w' v.ownBlock)
    (hown : w'.ownsRow B 48 18 v' (qs.length + 1) (qs.flatMap qCells ++ srcCells s vi)) : OwnSrc B w' v' (qs ++ [(s, vi)]) := by
  have hk : ∀ (k : Nat) C fz, w.heap[k]? = some (.cells C 44 fz) → w'.heap[k]? = w.heap[k]? := fun k C fz hk => (keep_grown h.1 hg hk (by decide)).trans hk.symm
  refine ⟨?_, ?_, ?_⟩
  · rw [List.length_append, List.flatMap_append]
    simpa [qCells] using hown
  · intro q hq
    rcases List.mem_append.1 hq with hq | hq
    · exact h.2.1 q hq
    · simp at hq; subst hq; exact hs
  · intro q hq
    rcases List.mem_append.1 hq with hq | hq
    · exact (h.2.2 q hq).of_heap hk
    · simp at hq; subst hq; exact hi.of_heap hk

/-- the finished set -/
theorem SetAt.of_own {B : Nat} {w : World} {v : Value} {qs : List (Src × Value)} (h : OwnSrc B w v qs) : SetAt (w.heap.size + 1) (w.alloc (.cells #[v] 31)) w.heap.size (qs.map (·.1)) := by
  refine ⟨Nat.lt_succ_self _, ?_⟩
  rcases h.1.2 with ⟨hv, h0⟩ | ⟨g, cap, cur, hv, _, hg, _, _, _, htake⟩
  · refine ⟨none, 0, ?_, ?_⟩
    · rw [World.cell?_alloc_at _ _ _ _ rfl, hv, List.length_map, h0]; rfl
    · intro k s hk
      have := List.eq_nil_of_length_eq_zero h0
      subst this
      simp at hk
  · refine ⟨some ⟨g, 0, none⟩, cap, ?_, ?_⟩
    · rw [World.cell?_alloc_at _ _ _ _ rfl, hv, List.length_map]; rfl
    · intro k s hk
      have hglt := lt_of_heap hg
      rw [List.getElem?_map, Option.map_eq_some_iff] at hk
      obtain ⟨q, hq, rfl⟩ := hk
      refine ⟨g, rfl, by omega, q.2, ?_, ?_⟩
      · intro j u hu
        have h2 : (w.alloc (.cells #[v] 31)).heap[g]? = some (.cells cur 48 (0, 0)) := (Below.heap_alloc w _ g hglt).trans hg
        have hxs : (qs.flatMap qCells)[k * 18 + j]? = some u := flat_get qCells_len qs k j q u hq hu
        rw [← htake, List.getElem?_take] at hxs
        split at hxs
        · have h3 : cur[k * 18 + j]? = some u := by simpa using hxs
          simp [World.cell?, h2, h3]
        · cases hxs
      · obtain ⟨G, capG, C, fz, h1, h2, h3⟩ := h.2.2 q (List.mem_of_getElem? hq)
        have hGlt := lt_of_heap h2
        have h4 : (w.alloc (.cells #[v] 31)).heap[G]? = some (.cells C 44 fz) := (Below.heap_alloc w _ G hGlt).trans h2
        refine ⟨G, capG, h1, by omega, fun j p hp => ?_⟩
        obtain ⟨a1, a2⟩ := h3 j p hp
        simp [World.cell?, h4, a1, a2]

/-- a slice of bytes that came in -/
def ByAt (w : World) (v : Value) (m : Nat) : Prop :=
  ∃ ao cap, v = .slice ao m cap ∧ ∀ i, i < m → ∃ g o, ao = some ⟨g, o, none⟩ ∧ g < w.heap.size ∧ ∃ q : Nat, w.cell? ⟨g, o + i, none⟩ = some (.int .u8 q) ∧ q ≤ 255
/-- the steps that came in: of each its first field, its slice and that slice's length -/
def StAt (w : World) (v : Value) (sts : List (Nat × Value × Nat)) : Prop :=
  ∃ ao cap, v = .slice ao sts.length cap ∧ ∀ (i : Nat) (st : Nat × Value × Nat), sts[i]? = some st → ∃ g o, ao = some ⟨g, o, none⟩ ∧ g < w.heap.size ∧ w.cell? ⟨g, o + i * 2, none⟩ = some (.int .u8 st.1) ∧ st.1 ≤ 255 ∧ w.cell? ⟨g, o + i * 2 + 1, none⟩ = some st.2.1 ∧ ByAt w st.2.1 st.2.2
end Go.Proofs.YbulkayguDoor
