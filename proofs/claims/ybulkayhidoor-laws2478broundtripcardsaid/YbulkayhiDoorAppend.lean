import Derived.Test.YbulkayhiDoorText
import Derived.Test.YbulkayhiDoorShelf
import Derived.Test.YbulkayhiDoorRows
import Derived.Deep.RegionLaw
import Derived.Lib.AppendStr
import Derived.Lib.AppendIntMem
import Derived.Lib.ItoaLen
import Derived.Lib.Slices
import Derived.Lib.IndexBytes
import Derived.Lib.Hide
import Derived.Laws.IdiomStrings
import Derived.OwnWalk
import Derived.WalkKit
import Derived.BigCall
namespace Go.Proofs.YbulkayhiDoor
open Go Go.RowKit Go.Shelf

theorem Ybad.info5 : (Ybad.prog.info? 5).map (fun i => (i.zero, i.size, i.bytes)) = some (some (.int .u8 0), 1, 1) := by kernel_rfl

/-- 'append' onto a row of the call's own, as one step of a region that draws -/
theorem step_append_own {P : Program} {ops : Array Oper} {o : Oper} {a : Act} {w : World} {K : Act → World → Prop} {Q : Exit → Act → World → Prop} {E : Prop}
    (hg : o.guard = none) (s x : Operand) (t : TypeId) (hop : o.op = Op.call { callee := Callee.builtin Builtin.append, args := #[s, x], argTypes := #[t, t] })
    (base : Nat) (e : TypeId) (i : TypeInfo) (z : Value) (size bytes : Nat) (h1 : P.underlying t = some (.slice e)) (h2 : P.info? e = some i) (h3 : i.zero = some z) (h4 : i.size = size) (h5 : i.bytes = bytes) (h6 : z.cells.size = size) (h7 : 0 < size)
    (v : Value) (n : Nat) (xs : List Value) (hs : a.eval s = v) (hown : w.ownsRow base e size v n xs)
    (ad : Addr) (m c : Nat) (news : List Value) (hx : a.eval x = .slice (some ad) m c) (hn : news.length = m * size) (hc : ∀ j u, news[j]? = some u → w.cell? (ad.add j) = some u) (h1c : ∀ u ∈ news, u.oneCell' = true)
    (b1 : n + m ≤ maxLen) (b2 : (n + m) * bytes ≤ 140737488355328) (hbase : base ≤ w.heap.size)
    (hK : ∀ v' w', w'.ownsRow base e size v' (n + m) (xs ++ news) → w.grownBy w' v.ownBlock → K (a.put o.dst v') w') :
    if Region.wanted o (yielded ops a.tmps) = true then Oper.wp P o a w K Q else E := by
  have hw : Region.wanted o (yielded ops a.tmps) = true := by simp [Region.wanted, hg]
  rw [if_pos hw]
  obtain ⟨v', w', hrun, r1, r2, _⟩ := run_append_own (P := P) w base t o.type e i z size bytes h1 h2 h3 h4 h5 h6 h7 v n xs hown ad m c news hn hc h1c b1 b2 hbase
  unfold Oper.wp
  simp [execOp, hop, resolve, invoke, builtin, hs, hx, hrun, Result.andThen]
  exact hK v' w' r1 r2

/-- the same of a string's bytes -/
theorem step_append_own_string {P : Program} {ops : Array Oper} {o : Oper} {a : Act} {w : World} {K : Act → World → Prop} {Q : Exit → Act → World → Prop} {E : Prop}
    (hg : o.guard = none) (sl x : Operand) (t u : TypeId) (hop : o.op = Op.call { callee := Callee.builtin Builtin.append, args := #[sl, x], argTypes := #[t, u] })
    (base : Nat) (e : TypeId) (i : TypeInfo) (ht : P.underlying t = some (.slice e)) (hu : P.underlying u = some .string) (hi : P.info? e = some i) (hz : i.zero = some (.int .u8 0))
    (hsize : i.size = 1) (hby : i.bytes = 1)
    (v : Value) (n : Nat) (xs : List Value) (hs : a.eval sl = v) (hown : w.ownsRow base e 1 v n xs) (s : ByteArray) (hx : a.eval x = .string s)
    (h63 : n + s.size ≤ maxLen) (hbytes : n + s.size ≤ 140737488355328) (hbase : base ≤ w.heap.size)
    (hK : ∀ v' w', w'.ownsRow base e 1 v' (n + s.size) (xs ++ Lib.strCells s) → w.grownBy w' v.ownBlock → K (a.put o.dst v') w') :
    if Region.wanted o (yielded ops a.tmps) = true then Oper.wp P o a w K Q else E := by
  have hw : Region.wanted o (yielded ops a.tmps) = true := by simp [Region.wanted, hg]
  rw [if_pos hw]
  obtain ⟨v', w', hrun, r1, r2, _⟩ := Lib.run_append_own_string (P := P) w base t u o.type e i ht hu hi hz hsize hby v n xs hown s h63 hbytes hbase
  unfold Oper.wp
  simp [execOp, hop, resolve, invoke, builtin, hs, hx, hrun, Result.andThen]
  exact hK v' w' r1 r2

theorem byte_at (w : World) (x : Value) : ∀ (j : Nat) (u : Value), [x][j]? = some u → (w.alloc (.cells #[x] 5)).cell? ((⟨w.heap.size, 0, none⟩ : Addr).add j) = some u := by
  intro j u hj
  match j, hj with
  | 0, hj => simp at hj; subst hj; simp [Addr.add]

theorem byte_one (k : Int) : ∀ u ∈ [Value.int .u8 k], u.oneCell' = true := by
  intro u hu; simp at hu; subst hu; rfl

abbrev Tab (B : Nat) (w : World) : Prop := Lib.TabBelow Ybad.prog B w "internal/strconv.uint64pow10" .u64 Lib.pow10Tab

theorem own_below {W W' : World} {B e size n : Nat} {v : Value} {xs : List Value} (h : W.ownsRow B e size v n xs) (hb : Below W.heap.size W W') : W'.ownsRow B e size v n xs :=
  h.kept (row := none) ⟨hb.os, hb.tape, hb.output, hb.size, fun k hk _ => hb.block k hk⟩ (by cases hv : v.ownBlock <;> simp)

/-- strconv.FormatInt of a number of eight digits that opens with 1 -/
theorem fmt_any (f : Nat) (hf : f < 10000000) (w : World) (htab : Lib.TabIs Ybad.prog w "internal/strconv.uint64pow10" .u64 Lib.pow10Tab) :
    Calls Ybad.prog 10 #[.int .i64 ((f : Int) + 10000000), .int .i64 10] w fun e w' => ∃ S : ByteArray, e = .returned (.string S) ∧ (1 ≤ S.size ∧ S.size ≤ 8) ∧ Hid (S.data.toList.drop 1 = frac7 f ∧ S.size = 8) ∧ Below w.heap.size w w' := by
  refine (Ybad.strconv_FormatInt_10 ((f : Int) + 10000000) (by omega) (by omega) w htab).mono ?_
  rintro e w2 ⟨rfl, kd, os, rfl⟩
  have e1 : (f : Int) + 10000000 = ((f + 10000000 : Nat) : Int) := by omega
  have hs : (⟨(Lib.itoa ((f : Int) + 10000000)).toArray⟩ : ByteArray).size = 8 := by
    rw [e1, Lib.itoa_nonneg]
    show (Lib.decDigits (f + 10000000)).toArray.size = 8
    rw [List.size_toArray, frac_length f hf]
  refine ⟨_, rfl, by omega, ⟨?_, hs⟩, Lib.below_grow _ _ (Nat.le_refl _) _ _⟩
  rw [e1, Lib.itoa_nonneg]
  exact frac_digits f hf

theorem extract_size (S : ByteArray) : (S.extract 1 S.size).size ≤ S.size := by
  simp
theorem extract_cells (S : ByteArray) (f : Nat) (h : S.data.toList.drop 1 = frac7 f) : Lib.strCells (S.extract 1 S.size) = Lib.byteCells (frac7 f) := by
  rw [Lib.strCells_eq, Lib.extract_to_end, h]

theorem deg_end {w : World} {B : Nat} {v : Value} (n u : Nat) (xs : List Value) (S : ByteArray) (h : S.data.toList.drop 1 = frac7 (u % 10000000) ∧ S.size = 8)
    (hown : w.ownsRow B 5 1 v (n + (Lib.itoa ((u : Int) / 10000000)).length + 1 + (S.extract 1 S.size).size)
      (xs ++ Lib.byteCells (Lib.itoa ((u : Int) / 10000000)) ++ [Value.int IntKind.u8 46] ++ Lib.strCells (S.extract 1 S.size))) :
    w.ownsRow B 5 1 v (n + (Lib.decDigits (u / 10000000) ++ 46 :: frac7 (u % 10000000)).length) (xs ++ Lib.byteCells (Lib.decDigits (u / 10000000) ++ 46 :: frac7 (u % 10000000))) := by
  rw [extract_cells S _ h.1, show (u : Int) / 10000000 = ((u / 10000000 : Nat) : Int) from by omega, Lib.itoa_nonneg] at hown
  have e : (S.extract 1 S.size).size = 7 := by simp [h.2]
  rw [e] at hown
  have e1 : n + (Lib.decDigits (u / 10000000) ++ 46 :: frac7 (u % 10000000)).length = n + (Lib.decDigits (u / 10000000)).length + 1 + 7 := by simp [frac7]; omega
  have e2 : xs ++ Lib.byteCells (Lib.decDigits (u / 10000000) ++ 46 :: frac7 (u % 10000000)) = xs ++ Lib.byteCells (Lib.decDigits (u / 10000000)) ++ [Value.int IntKind.u8 46] ++ Lib.byteCells (frac7 (u % 10000000)) := by
    simp [Lib.byteCells]
  rw [e1, e2]
  exact hown

theorem degL_pos (u : Nat) : degL (u : Int) = Lib.decDigits (u / 10000000) ++ 46 :: frac7 (u % 10000000) := by
  unfold degL
  rw [if_neg (by omega)]
  simp
theorem degL_neg (u : Nat) (h : 1 ≤ u) : degL (-(u : Int)) = 45 :: (Lib.decDigits (u / 10000000) ++ 46 :: frac7 (u % 10000000)) := by
  unfold degL
  rw [if_pos (by omega)]
  simp

set_option maxRecDepth 100000 in
set_option maxHeartbeats 1000000 in
theorem degrees_pos (B n : Nat) (u : Nat) (sv : Value) (xs : List Value) (w : World) (h1 : u ≤ 2147483648) (hown : w.ownsRow B 5 1 sv n xs) (hB : B ≤ w.heap.size) (hn : n ≤ 1000) (htab : Tab B w) :
    Calls Ybad.prog 8 #[sv, .int .i32 u] w fun e w' => ∃ v' L, e = .returned v' ∧ L = degL u ∧ w'.ownsRow B 5 1 v' (n + L.length) (xs ++ Lib.byteCells L) ∧ Below B w w' := by
  obtain ⟨i0, hi, hz0, hz1, hz2⟩ := info_parts Ybad.info5
  have q1 : (u : Int) / 10000000 ≤ 214 := by omega
  go_enter Ybad.func8, Ybad.ntmps8
  go_wp2_with fail
  have hl : (Lib.itoa ((u : Int) / 10000000)).length ≤ 21 := Lib.itoa_length_le _ (by omega) (by omega)
  refine (Ybad.strconv_AppendInt_10 B n ((u : Int) / 10000000) (by omega) (by omega) sv xs w hown hB (by omega) htab).mono ?_
  rintro e w1 ⟨v1, rfl, hown1, hnx1, -⟩
  have hs1 := hnx1.size
  go_wp2_with fail
  refine (fmt_any (u % 10000000) (by omega) w1 (htab.on hnx1).here).mono ?_
  rintro e w2 ⟨S, rfl, hS, HS, hnx2⟩
  have hs2 := hnx2.size
  have hown2 : w2.ownsRow B 5 1 v1 _ _ := own_below hown1 hnx2
  have hS1 : (1 : Int) ≤ (S.size : Int) := by omega
  have hx1 := extract_size S
  go_wp2_with fail
  go_region_law (first
    | (refine step_append_own rfl (.tmp 24) (.tmp 25) 24 rfl B 5 i0 (.int .u8 0) 1 1 Ybad.underlying24 hi hz0 hz1 hz2 rfl (by decide) v1 _ _ rfl (by first | exact (hown2.alloc _).drew | exact hown2.drew.alloc _) ⟨w2.heap.size, 0, none⟩ 1 1 [.int .u8 46] rfl rfl (byte_at w2 _) (byte_one _) (by unfold maxLen; omega) (by omega) (by simp; omega) ?_; intro v3 w3 hown3 hg3)
    | (refine step_append_own_string rfl (.tmp 26) (.tmp 28) 24 9 rfl B 5 i0 Ybad.underlying24 Ybad.underlying9 hi hz0 hz1 hz2 v3 _ _ rfl hown3 _ rfl (by unfold maxLen; simp; omega) (by simp; omega) (by have := hg3.size; simp at this; omega) ?_; intro v4 w4 hown4 hg4))
  go_wp2
  go_ret
  exact ⟨_, _, rfl, (degL_pos u).symm, deg_end n u xs S HS.out hown4, (((hnx1.trans (hnx2.mono (by omega))).alloc (by omega) _).drew.grown hg3 (by simp; omega) (fun k hk => (hown2.lt k hk).1)).grown hg4 (by have := hg3.size; simp at this; omega) (fun k hk => (hown3.lt k hk).1)⟩

set_option maxRecDepth 100000 in
set_option maxHeartbeats 1000000 in
theorem degrees_neg (B n : Nat) (u : Nat) (sv : Value) (xs : List Value) (w : World) (h0 : 1 ≤ u) (h1 : u ≤ 2147483648) (hown : w.ownsRow B 5 1 sv n xs) (hB : B ≤ w.heap.size) (hn : n ≤ 1000) (htab : Tab B w) :
    Calls Ybad.prog 8 #[sv, .int .i32 (-(u : Int))] w fun e w' => ∃ v' L, e = .returned v' ∧ L = degL (-(u : Int)) ∧ w'.ownsRow B 5 1 v' (n + L.length) (xs ++ Lib.byteCells L) ∧ Below B w w' := by
  obtain ⟨i0, hi, hz0, hz1, hz2⟩ := info_parts Ybad.info5
  have q1 : (u : Int) / 10000000 ≤ 214 := by omega
  go_enter Ybad.func8, Ybad.ntmps8
  go_wp2_with (at_builtin; refine wpList_append_own _ rfl (.tmp 11) (.tmp 12) 24 rfl B 5 i0 _ 1 1 Ybad.underlying24 hi hz0 hz1 hz2 rfl (by decide) sv _ _ rfl (hown.alloc _) ⟨w.heap.size, 0, none⟩ 1 1 [.int .u8 45] rfl rfl (byte_at w _) (byte_one _) ?c3 ?c4 ?c5 ?_)
  case c3 => unfold maxLen; omega
  case c4 => omega
  case c5 => simp; omega
  intro v0 w0 hown0 hg0 _
  have hnx0 : Below B w w0 := ((Below.refl B w).alloc hB _).grown hg0 (by simp; omega) (fun k hk => (hown.lt k hk).1)
  have hs0 := hnx0.size
  go_wp2_with fail
  have hl : (Lib.itoa ((u : Int) / 10000000)).length ≤ 21 := Lib.itoa_length_le _ (by omega) (by omega)
  refine (Ybad.strconv_AppendInt_10 B (n + 1) ((u : Int) / 10000000) (by omega) (by omega) v0 _ w0 hown0 (by omega) (by omega) (htab.on hnx0)).mono ?_
  rintro e w1 ⟨v1, rfl, hown1, hnx1, -⟩
  have hs1 := hnx1.size
  go_wp2_with fail
  refine (fmt_any (u % 10000000) (by omega) w1 ((htab.on hnx0).on hnx1).here).mono ?_
  rintro e w2 ⟨S, rfl, hS, HS, hnx2⟩
  have hs2 := hnx2.size
  have hown2 : w2.ownsRow B 5 1 v1 _ _ := own_below hown1 hnx2
  have hS1 : (1 : Int) ≤ (S.size : Int) := by omega
  have hx1 := extract_size S
  go_wp2_with fail
  go_region_law (first
    | (refine step_append_own rfl (.tmp 24) (.tmp 25) 24 rfl B 5 i0 (.int .u8 0) 1 1 Ybad.underlying24 hi hz0 hz1 hz2 rfl (by decide) v1 _ _ rfl (by first | exact (hown2.alloc _).drew | exact hown2.drew.alloc _) ⟨w2.heap.size, 0, none⟩ 1 1 [.int .u8 46] rfl rfl (byte_at w2 _) (byte_one _) (by unfold maxLen; omega) (by omega) (by simp; omega) ?_; intro v3 w3 hown3 hg3)
    | (refine step_append_own_string rfl (.tmp 26) (.tmp 28) 24 9 rfl B 5 i0 Ybad.underlying24 Ybad.underlying9 hi hz0 hz1 hz2 v3 _ _ rfl hown3 _ rfl (by unfold maxLen; simp; omega) (by simp; omega) (by have := hg3.size; simp at this; omega) ?_; intro v4 w4 hown4 hg4))
  go_wp2
  go_ret
  have E := deg_end (n + 1) u (xs ++ [Value.int .u8 45]) S HS.out hown4
  refine ⟨_, _, rfl, (degL_neg u h0).symm, ?_, ((((hnx0.trans hnx1).trans (hnx2.mono (by omega))).alloc (by omega) _).drew.grown hg3 (by simp; omega) (fun k hk => (hown2.lt k hk).1)).grown hg4 (by have := hg3.size; simp at this; omega) (fun k hk => (hown3.lt k hk).1)⟩
  rw [List.length_cons, show n + ((Lib.decDigits (u / 10000000) ++ 46 :: frac7 (u % 10000000)).length + 1) = n + 1 + (Lib.decDigits (u / 10000000) ++ 46 :: frac7 (u % 10000000)).length from by omega,
    show xs ++ Lib.byteCells (45 :: (Lib.decDigits (u / 10000000) ++ 46 :: frac7 (u % 10000000))) = xs ++ [Value.int .u8 45] ++ Lib.byteCells (Lib.decDigits (u / 10000000) ++ 46 :: frac7 (u % 10000000)) from by simp [Lib.byteCells]]
  exact E

theorem degrees_any (B n : Nat) (v : Int) (sv : Value) (xs : List Value) (w : World) (h0 : -2147483648 ≤ v) (h1 : v ≤ 2147483647) (hown : w.ownsRow B 5 1 sv n xs) (hB : B ≤ w.heap.size) (hn : n ≤ 1000) (htab : Tab B w) :
    Calls Ybad.prog 8 #[sv, .int .i32 v] w fun e w' => ∃ v' L, e = .returned v' ∧ L = degL v ∧ w'.ownsRow B 5 1 v' (n + L.length) (xs ++ Lib.byteCells L) ∧ Below B w w' := by
  by_cases hv : v < 0
  · obtain ⟨u, rfl⟩ : ∃ u : Nat, v = -(u : Int) := ⟨v.natAbs, by omega⟩
    exact degrees_neg B n u sv xs w (by omega) (by omega) hown hB hn htab
  · obtain ⟨u, rfl⟩ : ∃ u : Nat, v = (u : Int) := ⟨v.natAbs, by omega⟩
    exact degrees_pos B n u sv xs w (by omega) hown hB hn htab

/-- a place's text -/
def placeL (a b : Int) : List UInt8 := degL a ++ 32 :: degL b

set_option maxRecDepth 100000 in
set_option maxHeartbeats 1000000 in
theorem string_any (a b : Int) (w : World) (a0 : -2147483648 ≤ a) (a1 : a ≤ 2147483647) (b0 : -2147483648 ≤ b) (b1 : b ≤ 2147483647) (htab : Lib.TabIs Ybad.prog w "internal/strconv.uint64pow10" .u64 Lib.pow10Tab) :
    Calls Ybad.prog 6 #[.agg #[.int .i32 a, .int .i32 b]] w fun e w' => e = .returned (.string ⟨(placeL a b).toArray⟩) ∧ Below w.heap.size w w' := by
  obtain ⟨i0, hi, hz0, hz1, hz2⟩ := info_parts Ybad.info5
  have hT : Tab w.heap.size w := Lib.tabBelow_of_tabIs htab
  have hnx0 : Below w.heap.size w (w.alloc (.cells #[.int .i32 a, .int .i32 b] 23)) := (Below.refl _ _).alloc (Nat.le_refl _) _
  have la := degL_length a (by omega)
  have lb := degL_length b (by omega)
  go_enter Ybad.func6, Ybad.ntmps6
  go_wp2_with fail
  refine (degrees_any (w.heap.size + 1) 0 a (.slice none 0 0) [] _ a0 a1 (World.ownsRow_nil _ _ _ _) (by simp) (by omega) ?_).mono ?_
  · exact fun w' h' => hT w' (hnx0.trans (h'.mono (by omega)))
  rintro e w1 ⟨v1, L1, rfl, hL1, hown1, hnx1⟩
  rw [Nat.zero_add, List.nil_append] at hown1
  have hs1 := hnx1.size
  simp at hs1
  have HL1 : Hid (L1 = degL a) := hL1
  have l1 : L1.length ≤ 12 := by rw [hL1]; exact la.2
  have l1' : 9 ≤ L1.length := by rw [hL1]; exact la.1
  clear hL1
  have hc1 : w1.cell? ⟨w.heap.size, 1, none⟩ = some (.int .i32 b) := (hnx1.cell (p := ⟨w.heap.size, 1, none⟩) (by simp)).trans (by simp [go_sem])
  go_wp2_with (at_builtin; refine wpList_append_own _ rfl (.tmp 7) (.tmp 8) 24 rfl (w.heap.size + 1) 5 i0 _ 1 1 Ybad.underlying24 hi hz0 hz1 hz2 rfl (by decide) v1 _ _ rfl (hown1.alloc _) ⟨w1.heap.size, 0, none⟩ 1 1 [.int .u8 32] rfl rfl (byte_at w1 _) (byte_one _) ?c3 ?c4 ?c5 ?_)
  case c3 => unfold maxLen; omega
  case c4 => omega
  case c5 => simp; omega
  intro v2 w2 hown2 hg2 _
  have hnx2 : Below (w.heap.size + 1) w1 w2 := ((Below.refl _ w1).alloc (by omega) _).grown hg2 (by simp; omega) (fun k hk => (hown1.lt k hk).1)
  have hs2 := hnx2.size
  have hc2 : w2.cell? ⟨w.heap.size, 1, none⟩ = some (.int .i32 b) := (hnx2.cell (p := ⟨w.heap.size, 1, none⟩) (by simp)).trans hc1
  go_wp2_with fail
  refine (degrees_any (w.heap.size + 1) (L1.length + 1) b v2 _ w2 b0 b1 hown2 (by omega) (by omega) ?_).mono ?_
  · exact fun w' h' => hT w' ((hnx0.trans ((hnx1.trans hnx2).mono (by omega))).trans (h'.mono (by omega)))
  rintro e w3 ⟨v3, L2, rfl, hL2, hown3, hnx3⟩
  obtain ⟨l, hl⟩ : ∃ l, l = placeL a b := ⟨_, rfl⟩
  have hl2 : l = L1 ++ 32 :: L2 := by rw [hl, HL1.out, hL2]; rfl
  have eL : Lib.byteCells L1 ++ [Value.int .u8 32] ++ Lib.byteCells L2 = Lib.byteCells l := by rw [hl2]; simp [Lib.byteCells]
  have eN : L1.length + 1 + L2.length = l.length := by rw [hl2]; simp; omega
  rw [eL, eN] at hown3
  have hpos : 0 < l.length := by omega
  have HL := Lib.hid hl
  clear hl hl2 eL eN hL2
  rcases hown3.2 with ⟨-, h0⟩ | ⟨g, cap, cur, rfl, -, -, -, -, -, -⟩
  · omega
  · have hcv := run_convert_bytes_back (P := Ybad.prog) w3 24 9 5 ⟨g, 0, none⟩ cap l Ybad.underlying24 Ybad.underlying5 Ybad.underlying9 (fun j hj => hown3.cells (g := g) rfl j _ (by simp [Lib.byteCells, hj]))
    go_wp2
    go_ret
    have hl := HL.out
    subst hl
    exact ⟨rfl, hnx0.trans (((hnx1.trans hnx2).trans hnx3).mono (by omega))⟩
end Go.Proofs.YbulkayhiDoor
