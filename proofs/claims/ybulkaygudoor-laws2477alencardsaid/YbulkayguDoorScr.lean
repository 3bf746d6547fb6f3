import Derived.Test.YbulkayguDoorSet
import Derived.Test.YbulkayguDoorShelf2
import Derived.Lib.JoinLaws
import Derived.Lib.AppendIntMem
import Derived.Lib.ItoaWalk
import Derived.Lib.ItoaMem
import Derived.Lib.BufferKept
import Derived.Lib.HexFns
import Derived.BigCall
import Derived.BigGuard
namespace Go.Proofs.YbulkayguDoor
open Go Go.RowKit Go.Sort

/-- a byte's cell -/
def Byt (v : Value) : Prop := ∃ b : UInt8, v = .int .u8 (b.toNat : Int)

/-- the scratch: 36 bytes, whatever they are -/
def Scr (w : World) (scr : Nat) : Prop := ∃ f : Nat → Value, w.rowIs scr 53 36 f ∧ ∀ i, i < 36 → Byt (f i)

theorem Byt.one {v : Value} (h : Byt v) : v.oneCell' = true := by obtain ⟨b, rfl⟩ := h; rfl

theorem Scr.of_block {w w' : World} {scr : Nat} (h : Scr w scr) (e : w'.heap[scr]? = w.heap[scr]?) : Scr w' scr := by
  obtain ⟨f, h1, h2⟩ := h
  exact ⟨f, h1.of_block e, h2⟩
theorem Scr.lt {w : World} {scr : Nat} (h : Scr w scr) : scr < w.heap.size := by
  obtain ⟨f, h1, _⟩ := h
  exact h1.lt
theorem Scr.alloc {w : World} {scr : Nat} (h : Scr w scr) (o : Obj) : Scr (w.alloc o) scr := h.of_block (Below.heap_alloc w o scr h.lt)
theorem Scr.set {w : World} {scr : Nat} (h : Scr w scr) (i : Nat) {v : Value} (hv : Byt v) : Scr (w.setCell ⟨scr, i, none⟩ v) scr := by
  obtain ⟨f, h1, h2⟩ := h
  refine ⟨_, h1.set i v, ?_⟩
  intro j hj
  show Byt (if j = i then v else f j)
  split
  · exact hv
  · exact h2 j hj
theorem Scr.setCells {scr : Nat} : ∀ (vs : List Value) (o : Nat) (w : World), Scr w scr → (∀ v ∈ vs, Byt v) → Scr (w.setCells scr o vs) scr
  | [], _, _, h, _ => h
  | v :: r, o, _, h, hv => Scr.setCells r (o + 1) _ (h.set o (hv v List.mem_cons_self)) (fun u hu => hv u (List.mem_cons_of_mem _ hu))
theorem Scr.kept {w w' : World} {scr b : Nat} (h : Scr w scr) (hk : Lib.OthersKept 5 (some b) w w') (hne : scr ≠ b) : Scr w' scr := by
  obtain ⟨f, ⟨c, h1, h3, h4⟩, h2⟩ := h
  refine ⟨f, ⟨c, hk scr _ h1 (by simpa using hne) ?_, h3, h4⟩, h2⟩
  intro c' fz e
  cases e
theorem Scr.grown {w w' : World} {scr : Nat} (h : Scr w scr) (hg : w.grownBy w' none) : Scr w' scr := h.of_block (hg.block scr h.lt (by simp))
theorem grown_setCells (b : Nat) (vs : List Value) (o : Nat) (w : World) : w.grownBy (w.setCells b o vs) (some b) := by
  induction vs generalizing o w with
  | nil => exact ⟨rfl, rfl, rfl, Nat.le_refl _, fun _ _ _ => rfl⟩
  | cons v r ih =>
    have h := ih (o + 1) (w.setCell ⟨b, o, none⟩ v)
    refine ⟨h.os, h.tape, h.output, ?_, ?_⟩
    · exact Nat.le_trans (by simp) h.size
    · intro k hk hne
      refine (h.block k (by simpa using hk) hne).trans ?_
      exact Below.heap_setCell _ _ _ _ (fun e => hne (by rw [e]))
theorem grown_of_below {w w' : World} (h : Below w.heap.size w w') : w.grownBy w' none := ⟨h.os, h.tape, h.output, h.size, fun k hk _ => h.block k hk⟩
theorem grown_trans {a b c : World} {row : Option Nat} (h : a.grownBy b row) (k : b.grownBy c row) : a.grownBy c row :=
  ⟨k.os.trans h.os, k.tape.trans h.tape, k.output.trans h.output, Nat.le_trans h.size k.size, fun j hj hn => (k.block j (Nat.lt_of_lt_of_le hj h.size) hn).trans (h.block j hj hn)⟩
theorem grown_any {a b : World} (row : Option Nat) (h : a.grownBy b none) : a.grownBy b row := ⟨h.os, h.tape, h.output, h.size, fun i hi _ => h.block i hi (by simp)⟩
theorem byt_cells (l : List UInt8) : ∀ v ∈ Lib.byteCells l, Byt v := by
  intro v hv
  simp only [Lib.byteCells, List.mem_map] at hv
  obtain ⟨b, _, rfl⟩ := hv
  exact ⟨b, rfl⟩

theorem Ybad.info5 : (Ybad.prog.info? 5).map (fun i => (i.zero, i.size, i.bytes)) = some (some (.int .u8 0), 1, 1) := by kernel_rfl

/-- bytes of the scratch from the front -/
theorem Scr.take {w : World} {scr : Nat} (h : Scr w scr) (n : Nat) (hn : n ≤ 36) : ∃ l : List UInt8, l.length = n ∧ ∀ j u, (Lib.byteCells l)[j]? = some u → w.cell? ⟨scr, j, none⟩ = some u := by
  obtain ⟨f, h1, h2⟩ := h
  have hc : ∀ i, i < 36 → ∃ b : UInt8, f i = .int .u8 (b.toNat : Int) := h2
  refine ⟨(List.range n).map (fun i => if h : i < 36 then (hc i h).choose else 0), by simp, ?_⟩
  intro j u hj
  simp only [Lib.byteCells, List.map_map, List.getElem?_map, Option.map_eq_some_iff, Function.comp] at hj
  obtain ⟨i, hi, rfl⟩ := hj
  have hjn : j < n := by
    rcases Nat.lt_or_ge j n with h' | h'
    · exact h'
    · rw [List.getElem?_eq_none (by simpa using h')] at hi; cases hi
  rw [List.getElem?_range hjn] at hi
  obtain rfl : j = i := by simpa using hi
  have hj36 : j < 36 := by omega
  rw [h1.cell hj36, dif_pos hj36, ← (hc j hj36).choose_spec]

set_option maxHeartbeats 2000000 in
set_option maxRecDepth 100000 in
theorem write_scr (B b scr n : Nat) (L : List UInt8) (w : World) (h : Lib.IsBuilderF 51 5 B b (Lib.byteCells L) w) (hs : Scr w scr) (hne : scr ≠ b) (hn : n ≤ 36) (hlen : L.length ≤ 100000000) (hBw : B ≤ w.heap.size) :
    Calls Ybad.prog 12 #[.pointer (some ⟨b, 0, none⟩), .slice (some ⟨scr, 0, none⟩) n 36] w fun e w' => (∃ r, e = .returned r) ∧ ∃ L' : List UInt8, L'.length = L.length + n ∧ Lib.BuilderAtF 51 5 B b (.pointer (some ⟨b, 0, none⟩)) (Lib.byteCells L') w' ∧ Below B w w' ∧ Lib.OthersKept 5 (some b) w w' := by
  obtain ⟨i0, hi, hz0, hz1, hz2⟩ := info_parts Ybad.info5
  go_enter Ybad.func12, Ybad.ntmps12
  go_wp2_with (go_at_call 20; refine (Ybad.Builder_copyCheck_k B b _ _ h).mono ?_)
  rintro e w1 ⟨rfl, h1, hb1, hk1⟩
  obtain ⟨l, hll, hcells⟩ := (hs.kept hk1 hne).take n hn
  obtain ⟨hB, v, hbk, hown, hnb⟩ := h1
  have c0 : w1.cell? ⟨b, 0, none⟩ = some (.pointer (some ⟨b, 0, none⟩)) := by rw [Lib.cell_of_heap hbk]; rfl
  have c1 : w1.cell? ⟨b, 1, none⟩ = some v := by rw [Lib.cell_of_heap hbk]; rfl
  have hbl : (Lib.byteCells L).length = L.length := Lib.byteCells_length L
  go_wp2_with (at_builtin; refine wpList_append_ownF _ rfl _ _ 33 rfl B 5 i0 (.int .u8 0) 1 1 Ybad.underlying33 hi hz0 hz1 hz2 rfl (by decide) _ _ _ rfl hown ⟨scr, 0, none⟩ n 36 (Lib.byteCells l) rfl ?c0 ?c1 ?c2 ?c3 ?c4 ?c5 ?_)
  case c0 => rw [Lib.byteCells_length, hll, Nat.mul_one]
  case c1 => intro j u hj; rw [Lib.add_plain, Nat.zero_add]; exact hcells j u hj
  case c2 => intro u hu; exact (byt_cells l u hu).one
  case c3 => unfold maxLen; omega
  case c4 => omega
  case c5 => have := hb1.size; omega
  intro v' w2 hown' hgrow _
  have hlt : b < w1.heap.size := by
    rcases Nat.lt_or_ge b w1.heap.size with h' | h'
    · exact h'
    · simp [Array.getElem?_eq_none h'] at hbk
  have hb2 : w2.heap[b]? = some (.cells #[.pointer (some ⟨b, 0, none⟩), v] 51 (0, 0)) := by
    rw [hgrow.block b hlt (fun e => hnb e.symm)]
    exact hbk
  have d0 : w2.cell? ⟨b, 0, none⟩ = some (.pointer (some ⟨b, 0, none⟩)) := by rw [Lib.cell_of_heap hb2]; rfl
  have d1 : w2.cell? ⟨b, 1, none⟩ = some v := by rw [Lib.cell_of_heap hb2]; rfl
  have f1 : w2.frozen? ⟨b, 1, none⟩ = false := Lib.frozen_of_heap hb2 1
  obtain ⟨ao, n', cap, rfl⟩ : ∃ ao n' cap, v' = .slice ao n' cap := by
    rcases hown'.2 with ⟨hv, _⟩ | ⟨g, cap, cur, fz, hv, _⟩
    · exact ⟨_, _, _, hv⟩
    · exact ⟨_, _, _, hv⟩
  go_wp2
  go_ret2
  refine ⟨⟨_, rfl⟩, L ++ l, by rw [List.length_append, hll], ?_, ?_, (hk1.grown hgrow (Lib.ownsRowF_kind hown)).setCell ⟨b, 1, none⟩ rfl _⟩
  · have e : Lib.byteCells (L ++ l) = Lib.byteCells L ++ Lib.byteCells l := by simp [Lib.byteCells]
    refine Lib.BuilderAtF.put (T := 51) (e := 5) hB hb2 (bs' := Lib.byteCells (L ++ l)) ?_ (by decide)
    rw [e]
    have e2 : (Lib.byteCells L ++ Lib.byteCells l).length = (Lib.byteCells L).length + n := by rw [List.length_append, Lib.byteCells_length l, hll]
    rw [e2, hbl]
    exact hown'
  · exact (hb1.grown hgrow (by have := hb1.size; omega) (fun k hk => (hown.lt k hk).1)).setCell (p := ⟨b, 1, none⟩) hB _

set_option maxHeartbeats 4000000 in
set_option maxRecDepth 100000 in
theorem appendUint_small (scr u : Nat) (hu1 : 1 ≤ u) (hu : u < 100) (w : World) (hs : Scr w scr) :
    Calls Ybad.prog 31 #[.slice (some ⟨scr, 0, none⟩) 0 36, .int .u64 u, .int .i64 10] w fun e w' => e = .returned (.slice (some ⟨scr, 0, none⟩) (Lib.nDigits u) 36) ∧ Scr w' scr ∧ w.grownBy w' (some scr) := by
  have hlen : (Lib.decDigits u).length = Lib.nDigits u := Lib.decDigits_length u
  have hlen2 : Lib.nDigits u ≤ 20 := by
    by_cases h10 : u < 10
    · rw [Lib.nDigits_small h10]; omega
    · rw [Lib.nDigits_big h10, Lib.nDigits_small (show u / 10 < 10 by omega)]; omega
  have hsz : (⟨(Lib.decDigits u).toArray⟩ : ByteArray).size = (Lib.decDigits u).length := by simp [ByteArray.size]
  have hbc : (Go.byteCells ⟨(Lib.decDigits u).toArray⟩).length ≤ 20 := by rw [Go.byteCells_length, hsz]; omega
  have HS := Lib.hid hs
  go_enter Ybad.func31, Ybad.ntmps31
  go_wp2_with (first
    | (go_at_call 32; refine (Ybad.internal_strconv_small u hu _).mono ?_; rintro e w' ⟨rfl, rfl⟩)
    | (at_builtin; refine wpList_append_room1 _ rfl _ _ 33 9 rfl 5 (.int .u8 0) 1 Ybad.underlying33 Ybad.info5 scr 0 0 36 rfl _ rfl _ _ (Src.ofString _ Ybad.underlying9 ⟨(Lib.decDigits u).toArray⟩) (by rw [hsz]; omega) ?c1 ?c2 ?_))
  case c1 => intro j hj; obtain ⟨f, h1, _⟩ := HS.out; simp only [Nat.zero_add]; rw [h1.cell (by omega)]; rfl
  case c2 => intro j hj; obtain ⟨f, h1, _⟩ := HS.out; exact h1.frozen _
  go_wp2
  go_ret
  refine ⟨?_, ?_, grown_setCells _ _ _ _⟩
  · rfl
  · refine Scr.setCells _ _ _ HS.out ?_
    intro v hv
    simp only [Go.byteCells, List.mem_map] at hv
    obtain ⟨b, _, rfl⟩ := hv
    exact ⟨b, rfl⟩

set_option maxHeartbeats 12800000 in
set_option maxRecDepth 100000 in
theorem appendUint_big (scr u : Nat) (hu : 100 ≤ u) (hu64 : u < 18446744073709551616) (w : World) (hs : Scr w scr) (htab : Lib.TabIs Ybad.prog w "internal/strconv.uint64pow10" .u64 Lib.pow10Tab) :
    Calls Ybad.prog 31 #[.slice (some ⟨scr, 0, none⟩) 0 36, .int .u64 u, .int .i64 10] w fun e w' => e = .returned (.slice (some ⟨scr, 0, none⟩) (Lib.nDigits u) 36) ∧ Scr w' scr ∧ w.grownBy w' (some scr) := by
  have hu1 : 1 ≤ u := by omega
  have hnd20 : Lib.nDigits u ≤ 20 := by have := Lib.numDigits_eq u hu1 hu64; split at this <;> omega
  have hal : Ybad.prog.arrayLen 79 = 24 := by kernel_rfl
  have hsl : ∀ W, (Instr.sliceAt 79 (.pointer (some ⟨w.heap.size, 0, none⟩)) none (some (.int .i64 (Lib.nDigits u : Int))) none).run Ybad.prog W = .ok (.slice (some ⟨w.heap.size, 0, none⟩) (Lib.nDigits u) 24) W := fun W => by
    rw [run_sliceAt_array_h W 79 ⟨w.heap.size, 0, none⟩ (by kernel_rfl) .i64 (Lib.nDigits u : Int) (by omega) (by rw [hal]; omega)]
    go_simp
  have hH0 := Lib.holds_zero0 w 79 (Lib.nDigits u) (by omega)
  have hfmt := Ybad.internal_strconv_formatBase10 w.heap.size 0 24 u (Array.replicate (Lib.nDigits u) 0) (w.alloc (.cells Lib.zeros24 79)) hH0 (by rw [Array.size_replicate]; exact Lib.lt_pow_nDigits u) hu64 (by rw [Array.size_replicate]; omega)
  rw [Array.size_replicate] at hfmt
  have HH0 := Lib.hid hH0
  have HS := Lib.hid hs
  have iu : (100 : Int) ≤ (u : Int) := by omega
  clear hH0 hal hs
  go_enter Ybad.func31, Ybad.ntmps31
  go_wp2_with (first
    | (go_at_call 33; refine (Ybad.internal_strconv_numDigits u hu1 hu64 _ (Lib.tabIs_alloc htab _)).mono ?_; rintro e w' ⟨rfl, rfl⟩))
  go_at_call 34
  refine hfmt.mono ?_
  rintro e w' ⟨rfl, k, v', dk, rfl, hF⟩
  have hcells : ∀ j u', (Lib.byteCells (Lib.decDigits u))[j]? = some u' → ((putRow (fun (b : UInt8) => Value.int .u8 (b.toNat : Int)) (w.alloc (.cells Lib.zeros24 79)) w.heap.size 0 dk).drewN k).cell? ((⟨w.heap.size, 0, none⟩ : Addr).add j) = some u' := by
    intro j u' hj
    have hjl : j < (Lib.decDigits u).length := by
      have h5 := (List.getElem?_eq_some_iff.1 hj).1
      rwa [Lib.byteCells_length] at h5
    have e5 : (Lib.byteCells (Lib.decDigits u))[j]? = some (Value.int .u8 ((Lib.decDigits u)[j].toNat : Int)) := by simp [Lib.byteCells, hjl]
    rw [e5] at hj
    cases hj
    rw [Lib.row_is_numeral hF j hjl, Lib.add_plain, World.cell?_drewN]
    exact cell?_putRow (fun (b : UInt8) => Value.int .u8 (b.toNat : Int)) _ w.heap.size 0 _ dk HH0.out (by rw [hF.size, Array.size_replicate]) j (by rw [hF.size]; rw [Lib.decDigits_length] at hjl; exact hjl)
  obtain ⟨os, eo⟩ := Lib.fin_at w (.cells Lib.zeros24 79) dk k 0
  have hnx2 : Below w.heap.size w ((putRow (fun (b : UInt8) => Value.int .u8 (b.toNat : Int)) (w.alloc (.cells Lib.zeros24 79)) w.heap.size 0 dk).drewN k) := by rw [eo]; exact Lib.below_grow w.heap.size w (Nat.le_refl _) k os
  generalize (putRow (fun (b : UInt8) => Value.int .u8 (b.toNat : Int)) (w.alloc (.cells Lib.zeros24 79)) w.heap.size 0 dk).drewN k = W2 at hcells hnx2 ⊢
  have hg2 := grown_of_below hnx2
  have hs2 : Scr W2 scr := HS.out.grown hg2
  have HS2 := Lib.hid hs2
  have HG2 := Lib.hid hg2
  have hbl : (Lib.byteCells (Lib.decDigits u)).length = Lib.nDigits u := by rw [Lib.byteCells_length, Lib.decDigits_length]
  clear eo HH0 hfmt hs2 hg2
  go_wp2_with (at_builtin; refine wpList_append_room1 _ rfl _ _ 33 33 rfl 5 (.int .u8 0) 1 Ybad.underlying33 Ybad.info5 scr 0 0 36 rfl _ rfl _ _ (Src.ofSlice _ Ybad.underlying33 ⟨w.heap.size, 0, none⟩ (Lib.nDigits u) 24 (Lib.byteCells (Lib.decDigits u)) ?c0 hcells ?c3) (by omega) ?c1 ?c2 ?_)
  case c0 => rw [hbl, Nat.mul_one]
  case c3 => intro u' hu'; exact (byt_cells _ u' hu').one
  case c1 => intro j hj; obtain ⟨f, h1, _⟩ := HS2.out; simp only [Nat.zero_add]; rw [h1.cell (by omega)]; rfl
  case c2 => intro j hj; obtain ⟨f, h1, _⟩ := HS2.out; exact h1.frozen _
  go_wp2
  go_ret
  refine ⟨?_, Scr.setCells _ _ _ HS2.out (byt_cells _), grown_trans (grown_any _ HG2.out) (grown_setCells _ _ _ _)⟩
  rfl

theorem appendUint_scr (scr u : Nat) (hu : 1 ≤ u) (hu64 : u < 18446744073709551616) (w : World) (hs : Scr w scr) (htab : Lib.TabIs Ybad.prog w "internal/strconv.uint64pow10" .u64 Lib.pow10Tab) :
    Calls Ybad.prog 31 #[.slice (some ⟨scr, 0, none⟩) 0 36, .int .u64 u, .int .i64 10] w fun e w' => e = .returned (.slice (some ⟨scr, 0, none⟩) (Lib.nDigits u) 36) ∧ Scr w' scr ∧ w.grownBy w' (some scr) := by
  by_cases h : u < 100
  · exact appendUint_small scr u hu h w hs
  · exact appendUint_big scr u (by omega) hu64 w hs htab

set_option maxHeartbeats 2000000 in
set_option maxRecDepth 100000 in
theorem appendInt_in (scr u : Nat) (hu : 1 ≤ u) (hu64 : u ≤ 4700000000000000000) (w : World) (hs : Scr w scr) (htab : Lib.TabIs Ybad.prog w "internal/strconv.uint64pow10" .u64 Lib.pow10Tab) :
    Calls Ybad.prog 23 #[.slice (some ⟨scr, 0, none⟩) 0 36, .int .i64 u, .int .i64 10] w fun e w' => e = .returned (.slice (some ⟨scr, 0, none⟩) (Lib.nDigits u) 36) ∧ Scr w' scr ∧ w.grownBy w' (some scr) := by
  have HS := Lib.hid hs
  have HT := Lib.hid htab
  clear hs htab
  go_enter Ybad.func23, Ybad.ntmps23
  go_wp2_with fail
  go_at_call 31
  refine (appendUint_scr scr u hu (by omega) _ HS.out HT.out).mono ?_
  rintro e w' ⟨rfl, h1, h2⟩
  go_wp2
  go_ret
  exact ⟨rfl, h1, h2⟩

set_option maxHeartbeats 2000000 in
set_option maxRecDepth 100000 in
theorem appendInt_scr (scr u : Nat) (hu : 1 ≤ u) (hu64 : u ≤ 4700000000000000000) (w : World) (hs : Scr w scr) (htab : Lib.TabIs Ybad.prog w "internal/strconv.uint64pow10" .u64 Lib.pow10Tab) :
    Calls Ybad.prog 15 #[.slice (some ⟨scr, 0, none⟩) 0 36, .int .i64 u, .int .i64 10] w fun e w' => e = .returned (.slice (some ⟨scr, 0, none⟩) (Lib.nDigits u) 36) ∧ Scr w' scr ∧ w.grownBy w' (some scr) := by
  have HS := Lib.hid hs
  have HT := Lib.hid htab
  clear hs htab
  go_enter Ybad.func15, Ybad.ntmps15
  go_wp2_with fail
  go_at_call 23
  refine (appendInt_in scr u hu hu64 _ HS.out HT.out).mono ?_
  rintro e w' ⟨rfl, h1, h2⟩
  go_wp2
  go_ret
  exact ⟨rfl, h1, h2⟩

end Go.Proofs.YbulkayguDoor
