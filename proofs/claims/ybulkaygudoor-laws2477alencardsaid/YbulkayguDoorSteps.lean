import Derived.Test.YbulkayguDoorText
namespace Go.Proofs.YbulkayguDoor
open Go Go.RowKit

/-- String's world: the builder holds N bytes, the scratch is there, what came in is untouched -/
structure Bd (w wr : World) (b scr N : Nat) : Prop where
  bld : ∃ L : List UInt8, L.length = N ∧ Lib.BuilderAtF 51 5 w.heap.size b (.pointer (some ⟨b, 0, none⟩)) (Lib.byteCells L) wr
  sc : Scr wr scr
  bel : Below w.heap.size w wr
  ne : scr ≠ b
  hscr : w.heap.size ≤ scr

/-- all blocks but the builder's and the scratch stand -/
def Kp (b scr : Nat) (w w' : World) : Prop := ∀ k o, w.heap[k]? = some o → k ≠ b → k ≠ scr → (∀ c fz, o ≠ .cells c 5 fz) → w'.heap[k]? = some o

theorem Kp.refl (b scr : Nat) (w : World) : Kp b scr w w := fun _ _ h _ _ _ => h
theorem Kp.trans {b scr : Nat} {a c d : World} (h : Kp b scr a c) (k : Kp b scr c d) : Kp b scr a d := fun i o hi h1 h2 h3 => k i o (h i o hi h1 h2 h3) h1 h2 h3
theorem Kp.kept {b scr : Nat} {w w' : World} (h : Lib.OthersKept 5 (some b) w w') : Kp b scr w w' := fun k o hk h1 _ h3 => h k o hk (by simpa using h1) h3
theorem Kp.grown {b scr : Nat} {w w' : World} (h : w.grownBy w' (some scr)) : Kp b scr w w' := fun k o hk _ h2 _ =>
  (h.block k (Array.getElem?_eq_some_iff.1 hk).1 (by simpa using h2)).trans hk

/-- a box of the call's own: cells cs, of a type that is no byte -/
def BoxAt (w : World) (x : Nat) (cs : List Value) : Prop := ∃ C T fz, w.heap[x]? = some (.cells C T fz) ∧ T ≠ 5 ∧ ∀ (j : Nat) (u : Value), cs[j]? = some u → C[j]? = some u

theorem BoxAt.kp {b scr x : Nat} {w w' : World} {cs : List Value} (h : BoxAt w x cs) (hk : Kp b scr w w') (h1 : x ≠ b) (h2 : x ≠ scr) : BoxAt w' x cs := by
  obtain ⟨C, T, fz, h3, h4, h5⟩ := h
  exact ⟨C, T, fz, hk x _ h3 h1 h2 (fun c fz e => by cases e; exact h4 rfl), h4, h5⟩
theorem BoxAt.cell {x j : Nat} {w : World} {cs : List Value} (h : BoxAt w x cs) {u : Value} (hu : cs[j]? = some u) : w.cell? ⟨x, j, none⟩ = some u := by
  obtain ⟨C, T, fz, h3, h4, h5⟩ := h
  simp [World.cell?, h3, h5 j u hu]
theorem BoxAt.range {x : Nat} {w : World} {cs : List Value} (h : BoxAt w x cs) : w.rangeAt x 0 cs := fun j u hu => by
  rw [Nat.zero_add]; exact h.cell hu
theorem BoxAt.alloc {x : Nat} {w : World} {cs : List Value} (h : BoxAt w x cs) (o : Obj) : BoxAt (w.alloc o) x cs := by
  obtain ⟨C, T, fz, h3, h4, h5⟩ := h
  exact ⟨C, T, fz, (Below.heap_alloc w o x (Array.getElem?_eq_some_iff.1 h3).1).trans h3, h4, h5⟩
theorem BoxAt.new (w : World) (c : Array Value) (T : TypeId) (hT : T ≠ 5) : BoxAt (w.alloc (.cells c T)) w.heap.size c.toList :=
  ⟨c, T, _, heap_alloc_new w _, hT, fun j u hu => by simpa using hu⟩
theorem BoxAt.sub {x : Nat} {w : World} {cs cs' : List Value} (h : BoxAt w x cs) (hs : ∀ (j : Nat) (u : Value), cs'[j]? = some u → cs[j]? = some u) : BoxAt w x cs' := by
  obtain ⟨C, T, fz, h3, h4, h5⟩ := h
  exact ⟨C, T, fz, h3, h4, fun j u hu => h5 j u (hs j u hu)⟩
theorem heap_setCells (b : Nat) (T : TypeId) (fz : Nat × Nat) : ∀ (vs : List Value) (o : Nat) (w : World) (C : Array Value), w.heap[b]? = some (.cells C T fz) → ∃ C', (w.setCells b o vs).heap[b]? = some (.cells C' T fz)
  | [], _, _, C, h => ⟨C, h⟩
  | v :: r, o, w, C, h => heap_setCells b T fz r (o + 1) (w.setCell ⟨b, o, none⟩ v) (C.setIfInBounds o v) (by simp [World.setCell, Array.getElem?_modify, h])
/-- a box that is filled at once -/
theorem BoxAt.boxed (w : World) (c : Array Value) (t : TypeId) (ht : t ≠ 5) (cs : List Value) (h : cs.length ≤ c.size) : BoxAt (boxW w c t cs) w.heap.size cs := by
  obtain ⟨C', hC⟩ := heap_setCells w.heap.size t _ cs 0 (w.alloc (.cells c t)) c (heap_alloc_new w _)
  refine ⟨C', t, _, hC, ht, ?_⟩
  intro j u hu
  have h1 := (YbulkayguDoor.boxed w c t cs h).1 j u hu
  rw [Nat.zero_add] at h1
  have h2 : (boxW w c t cs).heap[w.heap.size]? = some (.cells C' t (0, 0)) := hC
  simpa [World.cell?, h2] using h1

theorem wpList_fill2 {P : Program} {ops : Array Oper} {rest : List Oper} {op : Oper} {a : Act} {w0 : World} {Q : Exit → Act → World → Prop} (hgd : op.guard = none) (ty : TypeId) (x y : Operand) (ho : op.op = .store ty x y) (hd : op.dst = none)
    (c : Array Value) (cs : List Value) (hx : a.eval x = .pointer (some ⟨w0.heap.size, 0, none⟩)) (hy : a.eval y = .agg cs.toArray) (hcs : cs.length ≤ c.size) (hi : (P.info? ty).map (·.size) = some cs.length) (h1 : cs.toArray.all (·.oneCell') = true) (hty : ty ≠ 5)
    (h : ∀ wb, BoxAt wb w0.heap.size cs → Below w0.heap.size w0 wb → wb.heap.size = w0.heap.size + 1 → wpList P ops Q rest a wb) : wpList P ops Q (op :: rest) a (w0.alloc (.cells c ty)) := by
  obtain ⟨b1, b2, b3⟩ := YbulkayguDoor.boxed w0 c ty cs hcs
  refine wpList_store_mid hgd ty x y ho w0.heap.size 0 cs.toArray hx hy (there_new w0 c ty _ (by simpa using hcs)) (by simpa using hi) h1 ?_
  have := h _ (BoxAt.boxed w0 c ty hty cs hcs) b2 b3
  rw [hd]
  exact this

theorem Bd.lt {w wr : World} {b scr N : Nat} (h : Bd w wr b scr N) : b < wr.heap.size ∧ scr < wr.heap.size := by
  obtain ⟨L, _, h2⟩ := h.bld
  exact ⟨h2.lt, h.sc.lt⟩
theorem Bd.alloc {w wr : World} {b scr N : Nat} (h : Bd w wr b scr N) (o : Obj) : Bd w (wr.alloc o) b scr N := by
  obtain ⟨L, h1, h2⟩ := h.bld
  exact ⟨⟨L, h1, h2.alloc o⟩, h.sc.alloc o, h.bel.alloc h.bel.size o, h.ne, h.hscr⟩
theorem Bd.drewN {w wr : World} {b scr N : Nat} (h : Bd w wr b scr N) (n : Nat) : Bd w (wr.drewN n) b scr N := by
  obtain ⟨L, h1, h2⟩ := h.bld
  exact ⟨⟨L, h1, h2⟩, h.sc.of_block rfl, h.bel.trans ⟨rfl, rfl, rfl, Nat.le_refl _, fun _ _ => rfl⟩, h.ne, h.hscr⟩
theorem bld_grown {w wr w' : World} {b scr : Nat} {bs : List Value} (h : Lib.BuilderAtF 51 5 w.heap.size b (.pointer (some ⟨b, 0, none⟩)) bs wr) (hs : Scr wr scr) (hne : scr ≠ b) (hg : wr.grownBy w' (some scr)) :
    Lib.BuilderAtF 51 5 w.heap.size b (.pointer (some ⟨b, 0, none⟩)) bs w' := by
  have hlt := h.lt
  obtain ⟨hB, v, hb, hown, hnb⟩ := h
  refine ⟨hB, v, (hg.block b hlt (by simpa using hne.symm)).trans hb, ?_, hnb⟩
  obtain ⟨f, ⟨c, hc, _⟩, _⟩ := hs
  exact hown.kept hg (Or.inr (Lib.ownBlock_neF hown hc (by decide)))
theorem Bd.grown {w wr w' : World} {b scr N : Nat} (h : Bd w wr b scr N) (hs : Scr w' scr) (hg : wr.grownBy w' (some scr)) : Bd w w' b scr N := by
  obtain ⟨L, h1, h2⟩ := h.bld
  exact ⟨⟨L, h1, bld_grown h2 h.sc h.ne hg⟩, hs, h.bel.grown hg h.bel.size (fun k hk => by simp at hk; have := h.hscr; omega), h.ne, h.hscr⟩
/-- a box that is made and filled -/
theorem Bd.below {w wr w' : World} {b scr N : Nat} (h : Bd w wr b scr N) (hb : Below wr.heap.size wr w') : Bd w w' b scr N := by
  have hg := grown_of_below hb
  exact h.grown (h.sc.grown hg) (grown_any _ hg)

theorem writeByte_step (b scr N : Nat) (c : UInt8) (ci : Int) (hc : ci = (c.toNat : Int)) (w wr : World) (h : Bd w wr b scr N) (hN : N ≤ 100000000) :
    Calls Ybad.prog 14 #[.pointer (some ⟨b, 0, none⟩), .int .u8 ci] wr fun e w' => (∃ r, e = .returned r) ∧ Bd w w' b scr (N + 1) ∧ Kp b scr wr w' := by
  obtain ⟨L, h1, h2⟩ := h.bld
  subst hc
  refine (Ybad.Builder_WriteByte_k w.heap.size b (Lib.byteCells L) (c.toNat : Int) wr (Or.inr h2) (by rw [Lib.byteCells_length]; omega) h.bel.size).mono ?_
  rintro e w' ⟨rfl, h3, h4, h5⟩
  refine ⟨⟨_, rfl⟩, ⟨⟨L ++ [c], by simp [h1], ?_⟩, h.sc.kept h5 h.ne, h.bel.trans h4, h.ne, h.hscr⟩, Kp.kept h5⟩
  rw [show Lib.byteCells (L ++ [c]) = Lib.byteCells L ++ [.int .u8 (c.toNat : Int)] by simp [Lib.byteCells]]
  exact h3

theorem strCells_eq (s : ByteArray) : Lib.strCells s = Lib.byteCells s.data.toList := by
  simp [Lib.strCells, Lib.byteCells]

theorem writeString_step (b scr N : Nat) (s : ByteArray) (hs : s.size ≤ 100) (w wr : World) (h : Bd w wr b scr N) (hN : N ≤ 100000000) :
    Calls Ybad.prog 11 #[.pointer (some ⟨b, 0, none⟩), .string s] wr fun e w' => (∃ r, e = .returned r) ∧ Bd w w' b scr (N + s.size) ∧ Kp b scr wr w' := by
  obtain ⟨L, h1, h2⟩ := h.bld
  refine (Ybad.Builder_WriteString_k w.heap.size b (Lib.byteCells L) s wr (Or.inr h2) (by rw [Lib.byteCells_length]; omega) h.bel.size).mono ?_
  rintro e w' ⟨rfl, h3, h4, h5⟩
  refine ⟨⟨_, rfl⟩, ⟨⟨L ++ s.data.toList, ?_, ?_⟩, h.sc.kept h5 h.ne, h.bel.trans h4, h.ne, h.hscr⟩, Kp.kept h5⟩
  · rw [List.length_append, h1, Array.length_toList]; rfl
  · rw [show Lib.byteCells (L ++ s.data.toList) = Lib.byteCells L ++ Lib.strCells s by rw [strCells_eq]; simp [Lib.byteCells]]
    exact h3

theorem write_step (b scr N n : Nat) (hn : n ≤ 36) (w wr : World) (h : Bd w wr b scr N) (hN : N ≤ 100000000) :
    Calls Ybad.prog 12 #[.pointer (some ⟨b, 0, none⟩), .slice (some ⟨scr, 0, none⟩) n 36] wr fun e w' => (∃ r, e = .returned r) ∧ Bd w w' b scr (N + n) ∧ Kp b scr wr w' := by
  obtain ⟨L, h1, h2⟩ := h.bld
  refine (write_scr w.heap.size b scr n L wr (Or.inr h2) h.sc h.ne hn (by omega) h.bel.size).mono ?_
  rintro e w' ⟨h0, L', hl, h3, h4, h5⟩
  exact ⟨h0, ⟨⟨L', by omega, h3⟩, h.sc.kept h5 h.ne, h.bel.trans h4, h.ne, h.hscr⟩, Kp.kept h5⟩

theorem appendInt_step (b scr N u : Nat) (hu : 1 ≤ u) (hu2 : u ≤ 4700000000000000000) (w wr : World) (h : Bd w wr b scr N) (htab : Lib.TabBelow Ybad.prog w.heap.size w "internal/strconv.uint64pow10" .u64 Lib.pow10Tab) :
    Calls Ybad.prog 15 #[.slice (some ⟨scr, 0, none⟩) 0 36, .int .i64 u, .int .i64 10] wr fun e w' => e = .returned (.slice (some ⟨scr, 0, none⟩) (Lib.nDigits u) 36) ∧ Bd w w' b scr N ∧ Kp b scr wr w' := by
  refine (appendInt_scr scr u hu hu2 wr h.sc (htab wr h.bel)).mono ?_
  rintro e w' ⟨rfl, h1, h2⟩
  exact ⟨rfl, h.grown h1 h2, Kp.grown h2⟩

theorem appendText_step (b scr N : Nat) (hi lo : Int) (hh : 0 ≤ hi ∧ hi < 256) (hl : 0 ≤ lo ∧ lo < 256) (w wr : World) (h : Bd w wr b scr N) (hg : Grp w) (h0 : 0 < w.heap.size) :
    Calls Ybad.prog 13 #[.agg (uuCells hi lo).toArray, .slice (some ⟨scr, 0, none⟩) 0 36] wr fun e w' => e = .returned (.slice (some ⟨scr, 0, none⟩) 36 36) ∧ Bd w w' b scr N ∧ Kp b scr wr w' := by
  refine (appendText_scr scr hi lo wr h.sc (hg.below h0 h.bel) hh hl).mono ?_
  rintro e w' ⟨rfl, h1, h2⟩
  exact ⟨rfl, h.grown h1 h2, Kp.grown h2⟩

/-- the builder and the scratch laid anew -/
theorem Bd.start {w w2 : World} {b : Nat} (hb : Lib.BuilderAt 51 5 w.heap.size b (.pointer (some ⟨b, 0, none⟩)) [] w2) (hbel : Below w.heap.size w w2) (c : Array Value) (hc : c.size = 36) (hc2 : ∀ i, i < 36 → c[i]? = some (.int .u8 0)) :
    Bd w (w2.alloc (.cells c 53)) b w2.heap.size 0 := by
  have h1 := Lib.BuilderAtF.of hb
  refine ⟨⟨[], rfl, h1.alloc _⟩, ⟨fun _ => .int .u8 0, ⟨c, heap_alloc_new w2 _, hc, hc2⟩, fun i _ => ⟨0, rfl⟩⟩, hbel.alloc hbel.size _, ?_, hbel.size⟩
  have := h1.lt
  omega
end Go.Proofs.YbulkayguDoor
