import Derived.Test.YbulkayhiDoorAppend
import Derived.Deep.DeepCutAuto
namespace Go.Proofs.YbulkayhiDoor
open Go Go.RowKit

theorem dg_toNat (u j : Nat) : (Lib.dg u j).toNat = 48 + u / 10 ^ j % 10 := by
  unfold Lib.dg
  rw [UInt8.toNat_ofNat']
  omega

/-- digits left of x; none of 0 -/
def left (x : Nat) : Nat := if x = 0 then 0 else Lib.nDigits x
theorem left_step (x : Nat) (h : 0 < x) : left x = left (x / 10) + 1 := by
  unfold left
  rw [if_neg (by omega)]
  by_cases h1 : x < 10
  · rw [if_pos (by omega), Lib.nDigits_small h1]
  · rw [if_neg (by omega), Lib.nDigits_big h1]

/-- the digits' row: the first t places hold the last t digits -/
def Filled (u t : Nat) (C : Array Value) : Prop := C.size = 20 ∧ ∀ j, j < t → C[j]? = some (.int .u8 ((Lib.dg u j).toNat : Int))

theorem Filled.set {u t : Nat} {C : Array Value} (h : Filled u t C) (ht : t < 20) (x : Nat) (hx : x = u / 10 ^ t) : Filled u (t + 1) (C.setIfInBounds t (.int .u8 (48 + (x : Int) % 10))) := by
  obtain ⟨h1, h2⟩ := h
  refine ⟨by simpa using h1, ?_⟩
  intro j hj
  rw [Array.getElem?_setIfInBounds]
  by_cases hjt : t = j
  · subst hjt
    rw [if_pos rfl, if_pos (by omega), dg_toNat, ← hx]
    congr 2
  · rw [if_neg hjt]
    exact h2 j (by omega)

theorem filled_none (u : Nat) : Filled u 0 #[.int .u8 0, .int .u8 0, .int .u8 0, .int .u8 0, .int .u8 0, .int .u8 0, .int .u8 0, .int .u8 0, .int .u8 0, .int .u8 0, .int .u8 0, .int .u8 0, .int .u8 0, .int .u8 0, .int .u8 0, .int .u8 0, .int .u8 0, .int .u8 0, .int .u8 0, .int .u8 0] :=
  ⟨rfl, fun j hj => by omega⟩
theorem filled_zero : Filled 0 1 #[.int .u8 48, .int .u8 0, .int .u8 0, .int .u8 0, .int .u8 0, .int .u8 0, .int .u8 0, .int .u8 0, .int .u8 0, .int .u8 0, .int .u8 0, .int .u8 0, .int .u8 0, .int .u8 0, .int .u8 0, .int .u8 0, .int .u8 0, .int .u8 0, .int .u8 0, .int .u8 0] :=
  ⟨rfl, fun j hj => by
    obtain rfl : j = 0 := by omega
    rw [dg_toNat]; rfl⟩
theorem left_zero : left 0 = 0 := rfl
theorem left_pos (x : Nat) (h : 0 < x) : left x = Lib.nDigits x := by unfold left; rw [if_neg (by omega)]
theorem nDigits_le3 (x : Nat) (h : x < 1000) : 1 ≤ Lib.nDigits x ∧ Lib.nDigits x ≤ 3 := by
  have := whole_length x h
  rwa [Lib.decDigits_length] at this

theorem digits_take (W k : Nat) (h : k < Lib.nDigits W) : (Lib.decDigits W).take (k + 1) = (Lib.decDigits W).take k ++ [Lib.dg W (Lib.nDigits W - 1 - k)] := by
  have hl := Lib.decDigits_length W
  rw [List.take_succ_eq_append_getElem (by omega)]
  congr 2
  simp only [Lib.decDigits_eq]
  simp

theorem own_ne {w : World} {base : Nat} {e : TypeId} {size : Nat} {v : Value} {n : Nat} {xs : List Value} (h : w.ownsRow base e size v n xs) {k : Nat} {cs : Array Value} {t : TypeId} {fr : Nat × Nat}
    (hk : w.heap[k]? = some (.cells cs t fr)) (hne : t ≠ e) : some k ≠ v.ownBlock := by
  rcases h.2 with ⟨rfl, _⟩ | ⟨g, cap, cur, rfl, _, hg, _⟩
  · simp [Value.ownBlock]
  · simp only [Value.ownBlock, ne_eq, Option.some.injEq]
    intro e1
    subst e1
    rw [hg] at hk
    simp at hk
    exact hne hk.2.1.symm

theorem heap_lt {w : World} {k : Nat} {o : Obj} (h : w.heap[k]? = some o) : k < w.heap.size := (Array.getElem?_eq_some_iff.1 h).1

/-- an array of the call's own behind an append to the row -/
theorem arr_kept {w w1 : World} {o : Obj} {base : Nat} {v : Value} {n : Nat} {xs : List Value} {k : Nat} {cs : Array Value} {t : TypeId} (h : w.ownsRow base 5 1 v n xs) (hk : w.heap[k]? = some (.cells cs t (0, 0))) (hne : t ≠ 5)
    (hg : (w.alloc o).grownBy w1 v.ownBlock) : w1.heap[k]? = some (.cells cs t (0, 0)) := by
  rw [hg.block k (by simp; have := heap_lt hk; omega) (own_ne h hk hne), heap_alloc_old _ _ (heap_lt hk)]
  exact hk

theorem own_eq {w : World} {B : Nat} {v : Value} {n m : Nat} {ys zs : List Value} (h : w.ownsRow B 5 1 v m ys) (hm : n = m) (hy : zs = ys) : w.ownsRow B 5 1 v n zs := by
  subst hm hy
  exact h

/-- the decimals' row: its places from m on are filled -/
def Filled7 (F m : Nat) (C : Array Value) : Prop := C.size = 7 ∧ ∀ i, m ≤ i → i < 7 → C[i]? = some (.int .u8 ((Lib.dg F (6 - i)).toNat : Int))

theorem filled7_none (F : Nat) : Filled7 F 7 #[.int .u8 0, .int .u8 0, .int .u8 0, .int .u8 0, .int .u8 0, .int .u8 0, .int .u8 0] := ⟨rfl, fun i h1 h2 => by omega⟩

theorem Filled7.set {F m : Nat} {C : Array Value} (h : Filled7 F (m + 1) C) (hm : m < 7) (x : Nat) (hx : x = F / 10 ^ (6 - m)) : Filled7 F m (C.setIfInBounds m (.int .u8 (48 + (x : Int) % 10))) := by
  obtain ⟨h1, h2⟩ := h
  refine ⟨by simpa using h1, ?_⟩
  intro i hi1 hi2
  rw [Array.getElem?_setIfInBounds]
  by_cases hmi : m = i
  · subst hmi
    rw [if_pos rfl, if_pos (by omega), dg_toNat, ← hx]
    congr 2
  · rw [if_neg hmi]
    exact h2 i (by omega) hi2

theorem frac_take (F k : Nat) (h : k < 7) : (frac7 F).take (k + 1) = (frac7 F).take k ++ [Lib.dg F (6 - k)] := by
  rcases k with _ | _ | _ | _ | _ | _ | _ | k
  all_goals first | rfl | omega

/-- the sign -/
def sgn (v : Int) : List UInt8 := if v < 0 then [45] else []
theorem sgn_neg {v : Int} (h : v < 0) : sgn v = [45] := by unfold sgn; rw [if_pos h]
theorem sgn_pos {v : Int} (h : 0 ≤ v) : sgn v = [] := by unfold sgn; rw [if_neg (by omega)]

set_option maxRecDepth 100000 in
set_option maxHeartbeats 1000000 in
theorem deg_any (B n : Nat) (v : Int) (sv : Value) (xs : List Value) (w : World) (h0 : -2147483648 ≤ v) (h1 : v ≤ 2147483647) (hown : w.ownsRow B 5 1 sv n xs) (hB : B ≤ w.heap.size) (hn : n ≤ 1000) :
    Calls Ybad.prog 5 #[sv, .int .i32 v] w fun e w' => ∃ v' L, e = .returned v' ∧ L = degL v ∧ w'.ownsRow B 5 1 v' (n + L.length) (xs ++ Lib.byteCells L) ∧ Below B w w' := by
  obtain ⟨i0, hi, hz0, hz1, hz2⟩ := info_parts Ybad.info5
  go_enter Ybad.func5, Ybad.ntmps5
  go_upto_if 19 with fail
  go_cut [0, 5] (fun o s5 wc => s5 = .int .i64 (v.natAbs : Int) ∧ ∃ sg : List UInt8, Hid (sg = sgn v) ∧ sg.length ≤ 1 ∧ wc.ownsRow B 5 1 o (n + sg.length) (xs ++ Lib.byteCells sg) ∧ Below B w wc)
  case first =>
    by_cases hv : v < 0
    · go_wp2_with (at_builtin; refine wpList_append_own _ rfl (.tmp 20) (.tmp 21) 24 rfl B 5 i0 _ 1 1 Ybad.underlying24 hi hz0 hz1 hz2 rfl (by decide) sv _ _ rfl (hown.alloc _) ⟨w.heap.size, 0, none⟩ 1 1 [.int .u8 45] rfl rfl (byte_at w _) (byte_one _) ?c3 ?c4 ?c5 ?_)
      case c3 => unfold maxLen; omega
      case c4 => omega
      case c5 => simp; omega
      intro v1 w1 hown1 hg1 _
      have hnx1 : Below B w w1 := ((Below.refl B w).alloc hB _).grown hg1 (by simp; omega) (fun k hk => (hown.lt k hk).1)
      go_wp2_with fail
      go_meet
      case rel => exact ⟨congrArg _ (by omega), [45], (sgn_neg hv).symm, by simp, hown1, hnx1⟩
    · go_wp2_with fail
      go_meet
      case rel => exact ⟨congrArg _ (by omega), [], (sgn_pos (by omega)).symm, by simp, by simpa [Lib.byteCells] using hown, Below.refl _ _⟩
  case rest =>
    obtain ⟨hs5, sg, HSG, hsg, hownc, hnxc⟩ := hcut
    obtain ⟨wa, rfl⟩ : ∃ wa, wa = wc := ⟨_, rfl⟩
    obtain ⟨o1, rfl⟩ : ∃ o1, o1 = u0 := ⟨_, rfl⟩
    obtain ⟨U, hU⟩ : ∃ U, v.natAbs = U := ⟨_, rfl⟩
    have hU2 : U ≤ 2147483648 := by omega
    rw [hU] at hs5
    subst hs5
    have HU : Hid (v.natAbs = U) := hU
    clear hU h0 h1
    have q1 : (U : Int) / 10000000 ≤ 214 := by omega
    have hsc := hnxc.size
    obtain ⟨W, hW⟩ : ∃ W : Nat, U / 10000000 = W := ⟨_, rfl⟩
    obtain ⟨F, hF⟩ : ∃ F : Nat, U % 10000000 = F := ⟨_, rfl⟩
    have e1 : (U : Int) / 10000000 = (W : Int) := by omega
    have e2 : (U : Int) % 10000000 = (F : Int) := by omega
    have hW2 : W ≤ 214 := by omega
    have hF2 : F < 10000000 := by omega
    have HWF : Hid (U / 10000000 = W ∧ U % 10000000 = F) := ⟨hW, hF⟩
    clear hW hF q1
    go_upto_if 30 with fail
    clear e1 e2
    have hd3 := nDigits_le3 W (by omega)
    go_cut [7, 9] (fun s7 s9 wx => s7 = .int .i64 F ∧ ∃ (t : Nat) (C : Array Value), s9 = .int .i64 t ∧ wx = wa.alloc (.cells C 30) ∧ t ≤ 1 ∧ Filled W t C ∧ Hid (W = W / 10 ^ t ∧ t + left W = Lib.nDigits W))
    case first =>
      by_cases hz : W = 0
      · subst hz
        go_wp2_with fail
        go_meet
        case rel => exact ⟨congrArg _ (by have := HWF.out; omega), 1, _, rfl, rfl, by omega, filled_zero, by simp, by rw [left_zero, Lib.nDigits_small (by omega)]⟩
      · have hz' : ((W : Int) == 0) = false := by simp; omega
        go_wp2_with fail
        go_meet
        case rel => exact ⟨congrArg _ (by have := HWF.out; omega), 0, _, rfl, rfl, by omega, filled_none W, by simp, by rw [left_pos W (by omega)]; omega⟩
    case rest =>
      obtain ⟨hs7, t0, C0, hs9, hwx, ht0, hf0, H0⟩ := hcut
      subst hs7 hs9 hwx
      go_wp2_with fail
      go_loopw [9, 10] (fun s9 s10 wr => ∃ (t : Nat) (x : Int) (C : Array Value), s9 = .int .i64 t ∧ s10 = .int .i64 x ∧ wr = wa.alloc (.cells C 30) ∧ t ≤ 3 ∧ 0 ≤ x ∧ x ≤ 214 ∧ Filled W t C ∧ Hid (x.toNat = W / 10 ^ t ∧ t + left x.toNat = Lib.nDigits W))
        (fun _ s10 _ => (intOf s10).toNat)
      case atStart => exact ⟨t0, W, C0, rfl, rfl, rfl, by omega, by omega, by omega, hf0, H0⟩
      case round =>
        clear hf0 H0 ht0
        obtain ⟨t, x, C, rfl, rfl, rfl, ht, hx0, hx1, hf, H⟩ := hrel
        by_cases hX0 : 0 < x
        · obtain ⟨X, rfl⟩ : ∃ X : Nat, x = X := ⟨x.toNat, by omega⟩
          rw [Int.toNat_natCast] at H
          have hX0 : 0 < X := by omega
          have hC : C.size = 20 := hf.1
          have hlt3 : t < 3 := by
            obtain ⟨_, h2⟩ := H.out
            rw [left_step X hX0] at h2
            omega
          clear ht
          obtain ⟨c0, hc0⟩ : ∃ c0, C[t]? = some c0 := ⟨C[t]'(by omega), Array.getElem?_eq_getElem _⟩
          go_wp2_with fail
          go_roundw
          case rel => exact ⟨t + 1, ((X / 10 : Nat) : Int), _, by go_num, by go_num, rfl, by omega, by omega, by omega, hf.set (by omega) X H.out.1, by rw [Int.toNat_natCast, H.out.1, Nat.pow_succ, Nat.div_div_eq_div_mul], by rw [Int.toNat_natCast]; have h2 := H.out.2; rw [left_step X hX0] at h2; omega⟩
          case measure => simp [intOf]; omega
        · have htd : Hid (t = Lib.nDigits W) := by have h2 := H.out.2; rw [show x.toNat = 0 from by omega, left_zero] at h2; exact h2
          have ht1 : 1 ≤ t := by have := htd.out; omega
          clear H hd3
          go_wp2_with fail
          go_loopw [0, 11] (fun o s11 wr => ∃ m k : Nat, m ≤ 3 ∧ k ≤ 3 ∧ Hid (m + k = t) ∧ s11 = .int .i64 ((m : Int) - 1) ∧ wr.heap[wa.heap.size]? = some (.cells C 30 (0, 0)) ∧
              wr.ownsRow B 5 1 o (n + sg.length + k) (xs ++ Lib.byteCells sg ++ Lib.byteCells ((Lib.decDigits W).take k)) ∧ Below B w wr)
            (fun _ s11 _ => (intOf s11 + 1).toNat)
          case atStart => exact ⟨t, 0, by omega, by omega, Nat.add_zero t, rfl, heap_alloc_new _ _, by simpa [Lib.byteCells] using hownc.alloc _, hnxc.alloc (by omega) _⟩
          case round =>
            obtain ⟨m, k, hm, hk, Hmk, rfl, harr, hownr, hnxr⟩ := hrel
            obtain ⟨o2, rfl⟩ : ∃ o2, o2 = u0 := ⟨_, rfl⟩
            have hsr := hnxr.size
            rcases m with _ | m
            · have hown3 : wr.ownsRow B 5 1 o2 (n + (sg ++ Lib.decDigits W).length) (xs ++ Lib.byteCells (sg ++ Lib.decDigits W)) := by
                have h1 := Hmk.out
                have h2 := htd.out
                have h3 := Lib.decDigits_length W
                have h4 := hownr
                rw [List.take_of_length_le (by omega)] at h4
                rw [List.length_append, ← Nat.add_assoc, Lib.byteCells_append, ← List.append_assoc, show (Lib.decDigits W).length = k from by omega]
                exact h4
              obtain ⟨T0, hT0⟩ : ∃ T0, sg ++ Lib.decDigits W = T0 := ⟨_, rfl⟩
              rw [hT0] at hown3
              have HT0 : Hid (sg ++ Lib.decDigits W = T0) := hT0
              have hT0l : T0.length ≤ 4 := by rw [← hT0, List.length_append, Lib.decDigits_length]; have := nDigits_le3 W (by omega); omega
              clear hT0 hownr harr Hmk htd hf
              go_wp2_with (at_builtin; refine wpList_append_own _ rfl (.tmp 57) (.tmp 58) 24 rfl B 5 i0 _ 1 1 Ybad.underlying24 hi hz0 hz1 hz2 rfl (by decide) _ _ _ rfl (hown3.alloc _) ⟨wr.heap.size, 0, none⟩ 1 1 [.int .u8 46] rfl rfl (byte_at wr _) (byte_one _) ?d3 ?d4 ?d5 ?_)
              case d3 => unfold maxLen; omega
              case d4 => omega
              case d5 => simp; omega
              intro v4 w4 hown4 hg4 _
              have hnx4 : Below B w w4 := (hnxr.alloc (by omega) _).grown hg4 (by simp; omega) (fun k hk => (hown3.lt k hk).1)
              have hs4 := hnx4.size
              have HT : Hid (∃ T1 : List UInt8, T1 = T0 ++ [46] ∧ w4.ownsRow B 5 1 v4 (n + T1.length) (xs ++ Lib.byteCells T1)) :=
                ⟨_, rfl, own_eq hown4 (by simp; omega) (by simp [Lib.byteCells])⟩
              obtain ⟨T1, hT1, hown5⟩ := HT.out
              have HT1 : Hid (T1 = T0 ++ [46]) := hT1
              have hT1l : T1.length ≤ 5 := by rw [hT1]; simp; omega
              clear hT1 HT hown4 hg4 hown3
              go_wp2_with fail
              go_loopw [13, 14] (fun s13 s14 wr => ∃ (x j : Int) (C2 : Array Value), s13 = .int .i64 x ∧ s14 = .int .i64 j ∧ wr = w4.alloc (.cells C2 31) ∧ 0 ≤ x ∧ x ≤ 9999999 ∧ -1 ≤ j ∧ j ≤ 6 ∧ Hid (x.toNat = F / 10 ^ (6 - j).toNat) ∧ Filled7 F (j + 1).toNat C2)
                (fun _ s14 _ => (intOf s14 + 1).toNat)
              case atStart => exact ⟨F, 6, _, rfl, rfl, rfl, by omega, by omega, by omega, by omega, by show F = F / 1; simp, filled7_none F⟩
              case round =>
                obtain ⟨x, j, C2, rfl, rfl, rfl, hx0, hx1, hj0, hj1, Hx, hf7⟩ := hrel
                by_cases hj : 0 ≤ j
                · obtain ⟨m, rfl⟩ : ∃ m : Nat, j = m := ⟨j.toNat, by omega⟩
                  obtain ⟨X, rfl⟩ : ∃ X : Nat, x = X := ⟨x.toNat, by omega⟩
                  rw [show ((m : Int) + 1).toNat = m + 1 from by omega] at hf7
                  rw [Int.toNat_natCast, show (6 - (m : Int)).toNat = 6 - m from by omega] at Hx
                  have hm7 : m < 7 := by omega
                  have hC2 : C2.size = 7 := hf7.1
                  obtain ⟨c0, hc0⟩ : ∃ c0, C2[m]? = some c0 := ⟨C2[m]'(by omega), Array.getElem?_eq_getElem _⟩
                  have hf8 := hf7.set hm7 X Hx.out
                  go_wp2_with fail
                  go_roundw
                  case rel =>
                    refine ⟨((X / 10 : Nat) : Int), (m : Int) - 1, _, by go_num, rfl, rfl, by omega, by omega, by omega, by omega, ?_, ?_⟩
                    · show (((X / 10 : Nat) : Int)).toNat = _
                      rw [Int.toNat_natCast, show (6 - ((m : Int) - 1)).toNat = (6 - m) + 1 from by omega, Nat.pow_succ, ← Nat.div_div_eq_div_mul, ← Hx.out]
                    · rw [show ((m : Int) - 1 + 1).toNat = m from by omega]
                      exact hf8
                  case measure => simp [intOf]
                · have hf8 : Filled7 F 0 C2 := by rw [show (j + 1).toNat = 0 from by omega] at hf7; exact hf7
                  clear hf7 Hx
                  go_wp2_with fail
                  go_loopw [0, 15] (fun o s15 wr => ∃ k : Nat, k ≤ 7 ∧ s15 = .int .i64 k ∧ wr.heap[w4.heap.size]? = some (.cells C2 31 (0, 0)) ∧
                      wr.ownsRow B 5 1 o (n + T1.length + k) (xs ++ Lib.byteCells T1 ++ Lib.byteCells ((frac7 F).take k)) ∧ Below B w wr)
                    (fun _ s15 _ => 7 - (intOf s15).toNat)
                  case atStart => exact ⟨0, by omega, rfl, heap_alloc_new _ _, by simpa [Lib.byteCells] using hown5.alloc _, hnx4.alloc (by omega) _⟩
                  case round =>
                    obtain ⟨k, hk, rfl, harr, hownr, hnxr⟩ := hrel
                    obtain ⟨o3, rfl⟩ : ∃ o3, o3 = u0 := ⟨_, rfl⟩
                    obtain ⟨wq, rfl⟩ : ∃ wq, wq = wr := ⟨_, rfl⟩
                    have hsr := hnxr.size
                    by_cases hk7 : k < 7
                    · have hcm : wq.cell? ⟨w4.heap.size, k, none⟩ = some (.int .u8 ((Lib.dg F (6 - k)).toNat : Int)) := by
                        rw [cell_of_row wq _ k C2 31 (0, 0) harr]
                        exact hf8.2 k (by omega) hk7
                      go_wp2_with (at_builtin; refine wpList_append_own _ rfl (.tmp 77) (.tmp 81) 24 rfl B 5 i0 _ 1 1 Ybad.underlying24 hi hz0 hz1 hz2 rfl (by decide) _ _ _ rfl (hownr.alloc _) ⟨wq.heap.size, 0, none⟩ 1 1 [.int .u8 ((Lib.dg F (6 - k)).toNat : Int)] rfl rfl (byte_at wq _) (byte_one _) ?b3 ?b4 ?b5 ?_)
                      case b3 => unfold maxLen; omega
                      case b4 => omega
                      case b5 => simp; omega
                      intro v6 w6 hown6 hg6 _
                      have harr6 := arr_kept hownr harr (by decide) hg6
                      have hnx6 : Below B w w6 := (hnxr.alloc (by omega) _).grown hg6 (by simp; omega) (fun k hk => (hownr.lt k hk).1)
                      have hown7 : w6.ownsRow B 5 1 v6 (n + T1.length + (k + 1)) (xs ++ Lib.byteCells T1 ++ Lib.byteCells ((frac7 F).take (k + 1))) :=
                        own_eq hown6 (by omega) (by rw [frac_take F k hk7]; simp [Lib.byteCells])
                      clear hown6 hg6 hownr harr hcm hnxr
                      go_wp2_with fail
                      go_roundw
                      case rel => exact ⟨k + 1, by omega, by go_num, harr6, hown7, hnx6⟩
                      case measure => simp [intOf]; omega
                    · have hend : wq.ownsRow B 5 1 o3 (n + (degL v).length) (xs ++ Lib.byteCells (degL v)) := by
                        have e : degL v = T1 ++ frac7 F := by
                          rw [HT1.out, ← HT0.out, HSG.out, ← HWF.out.1, ← HWF.out.2, ← HU.out]
                          unfold degL sgn
                          simp
                        have h4 := hownr
                        rw [List.take_of_length_le (by simp [frac7]; omega)] at h4
                        exact own_eq h4 (by rw [e]; simp [frac7]; omega) (by rw [e]; simp [Lib.byteCells])
                      clear hownr harr hf8
                      go_wp2
                      go_ret
                      exact ⟨_, _, rfl, rfl, hend, hnxr⟩
            · have hcm : wr.cell? ⟨wa.heap.size, m, none⟩ = some (.int .u8 ((Lib.dg W m).toNat : Int)) := by
                rw [cell_of_row wr _ m C 30 (0, 0) harr]
                exact hf.2 m (by have := Hmk.out; omega)
              go_wp2_with (at_builtin; refine wpList_append_own _ rfl (.tmp 51) (.tmp 55) 24 rfl B 5 i0 _ 1 1 Ybad.underlying24 hi hz0 hz1 hz2 rfl (by decide) _ _ _ rfl (hownr.alloc _) ⟨wr.heap.size, 0, none⟩ 1 1 [.int .u8 ((Lib.dg W m).toNat : Int)] rfl rfl (byte_at wr _) (byte_one _) ?a3 ?a4 ?a5 ?_)
              case a3 => unfold maxLen; omega
              case a4 => omega
              case a5 => simp; omega
              intro v4 w4 hown4 hg4 _
              have harr4 := arr_kept hownr harr (by decide) hg4
              have hnx4 : Below B w w4 := (hnxr.alloc (by omega) _).grown hg4 (by simp; omega) (fun k hk => (hownr.lt k hk).1)
              have hk3 : k + 1 ≤ 3 := by have := Hmk.out; omega
              have Hmk4 : Hid (m + (k + 1) = t) := by have := Hmk.out; show m + (k + 1) = t; omega
              have hown5 : w4.ownsRow B 5 1 v4 (n + sg.length + (k + 1)) (xs ++ Lib.byteCells sg ++ Lib.byteCells ((Lib.decDigits W).take (k + 1))) := by
                have h1 := Hmk.out
                have h2 := htd.out
                exact own_eq hown4 (by omega) (by rw [digits_take W k (by omega), show Lib.nDigits W - 1 - k = m from by omega]; simp [Lib.byteCells])
              clear hown4 hg4 hownr harr Hmk hcm hnxr
              go_wp2_with fail
              go_roundw
              case rel => exact ⟨m, k + 1, by omega, hk3, Hmk4, by go_num, harr4, hown5, hnx4⟩
              case measure => simp [intOf]
end Go.Proofs.YbulkayhiDoor
