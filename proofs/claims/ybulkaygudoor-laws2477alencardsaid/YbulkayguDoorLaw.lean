import Derived.Test.YbulkayguDoorStr
import Derived.Test.YbulkayguDoorBuild
namespace Go.Proofs.YbulkayguDoor
open Go Go.RowKit

theorem ByAt.below {w w' : World} {v : Value} {m : Nat} (h : ByAt w v m) (hb : Below w.heap.size w w') : ByAt w' v m := by
  obtain ⟨ao, cap, h1, h2⟩ := h
  refine ⟨ao, cap, h1, fun i hi => ?_⟩
  obtain ⟨g, o, e, hg, q, hq, hq2⟩ := h2 i hi
  exact ⟨g, o, e, by have := hb.size; omega, q, (hb.cell (p := ⟨g, o + i, none⟩) hg).trans hq, hq2⟩
theorem StAt.below {w w' : World} {v : Value} {sts : List (Nat × Value × Nat)} (h : StAt w v sts) (hb : Below w.heap.size w w') : StAt w' v sts := by
  obtain ⟨ao, cap, h1, h2⟩ := h
  refine ⟨ao, cap, h1, fun i st hi => ?_⟩
  obtain ⟨g, o, e, hg, c1, c2, c3, c4⟩ := h2 i st hi
  exact ⟨g, o, e, by have := hb.size; omega, (hb.cell (p := ⟨g, o + i * 2, none⟩) hg).trans c1, c2, (hb.cell (p := ⟨g, o + i * 2 + 1, none⟩) hg).trans c3, c4.below hb⟩

set_option maxRecDepth 100000 in
set_option maxHeartbeats 2000000 in
theorem guard_any (v : Value) (sts : List (Nat × Value × Nat)) (w : World) (hst : StAt w v sts) :
    Calls Ybad.prog 5 #[v] w fun e w' => ∃ ok : Bool, e = .returned (.bool ok) ∧ (ok = true → sts.length ≤ 1024 ∧ ∀ st ∈ sts, st.2.2 ≤ 1024) ∧ Below w.heap.size w w' := by
  obtain ⟨ao, cap, rfl, hsts⟩ := hst
  have HST := Lib.hid hsts
  clear hsts
  by_cases hbig : sts.length ≤ 1024
  · have hbig' : ¬ (1024 : Int) < (sts.length : Int) := by omega
    go_enter Ybad.func5, Ybad.ntmps5
    go_wp2_with fail
    go_loopw [4, 10] (fun _ s10 wr => ∃ k : Nat, k ≤ sts.length ∧ s10 = .int .i64 k ∧ Below w.heap.size w wr ∧ ∀ (i : Nat) (st : Nat × Value × Nat), i < k → sts[i]? = some st → st.2.2 ≤ 1024)
      (fun _ s10 _ => sts.length - (intOf s10).toNat)
    case atStart => exact ⟨0, by omega, rfl, Below.refl _ _, fun i st h => absurd h (by omega)⟩
    case round =>
      obtain ⟨k, hk, rfl, hbel, hall⟩ := hrel
      have HALL := Lib.hid hall
      have hszr := hbel.size
      clear hall
      by_cases hlt : k < sts.length
      · obtain ⟨st, hs⟩ : ∃ st, sts[k]? = some st := ⟨_, List.getElem?_eq_getElem hlt⟩
        obtain ⟨g, o, rfl, hg, hc1, hadv, hc2, hby⟩ := HST.out k st hs
        have d1 := (hbel.cell (p := ⟨g, o + k * 2, none⟩) hg).trans hc1
        have d2 := (hbel.cell (p := ⟨g, o + k * 2 + 1, none⟩) hg).trans hc2
        have HHS := Lib.hid hs
        obtain ⟨adv, sv, m⟩ := st
        obtain ⟨aI, cI, hsv, _⟩ := hby
        dsimp only at *
        subst hsv
        clear hc1 hc2 hs
        by_cases hm : m ≤ 1024
        · have hm' : ¬ (1024 : Int) < (m : Int) := by omega
          go_wp2_with fail
          go_roundw
          case rel =>
            refine ⟨k + 1, by omega, by go_num, hbel.alloc hszr _, ?_⟩
            intro i st hi hsi
            by_cases hik : i < k
            · exact HALL.out i st hik hsi
            · obtain rfl : i = k := by omega
              have e := HHS.out
              rw [hsi] at e
              obtain rfl := Option.some.inj e
              exact hm
          case measure => simp [intOf]; omega
        · have hm' : (1024 : Int) < (m : Int) := by omega
          go_wp2_with fail
          go_ret
          exact ⟨false, rfl, (fun h => by cases h), hbel.alloc hszr _⟩
      · obtain rfl : k = sts.length := by omega
        go_wp2_with fail
        go_ret
        refine ⟨true, rfl, fun _ => ⟨hbig, ?_⟩, hbel⟩
        intro st hst
        obtain ⟨i, hi⟩ := List.mem_iff_getElem?.1 hst
        exact HALL.out i st (List.getElem?_eq_some_iff.1 hi).1 hi
  · have hbig' : (1024 : Int) < (sts.length : Int) := by omega
    go_enter Ybad.func5, Ybad.ntmps5
    go_wp2_with fail
    go_ret
    exact ⟨false, rfl, (fun h => by cases h), Below.refl _ _⟩

theorem total_nil : total none [] = 0 := rfl

set_option maxRecDepth 100000 in
set_option maxHeartbeats 2000000 in
theorem law_any (base : Int) (v : Value) (sts : List (Nat × Value × Nat)) (w : World) (hst : StAt w v sts) (hp : Pow w) (hgr : Grp w) (htab : Lib.TabIs Ybad.prog w "internal/strconv.uint64pow10" .u64 Lib.pow10Tab) (hg : 1 < w.heap.size) :
    Calls Ybad.prog 4 #[.int .i64 base, v] w fun e w' => e = .returned (.bool true) ∧ Below w.heap.size w w' := by
  have HST := Lib.hid hst
  have HP := Lib.hid hp
  have HG := Lib.hid hgr
  have HT := Lib.hid (Lib.tabBelow_of_tabIs htab)
  clear hst hp hgr htab
  go_enter Ybad.func4, Ybad.ntmps4
  go_wp2_with fail
  go_at_call 5
  refine (guard_any v sts w HST.out).mono ?_
  rintro e w1 ⟨ok, rfl, hok, hb1⟩
  have hs1 := hb1.size
  cases ok
  · clear hok
    go_wp2_with fail
    go_ret
    exact ⟨rfl, hb1⟩
  · have hok := hok rfl
    have HOK := Lib.hid hok
    clear hok
    go_wp2_with fail
    go_at_call 6
    refine (build_any base v sts w1 (HST.out.below hb1) HOK.out.1 HOK.out.2).mono ?_
    rintro e w2 ⟨S, srcs, rfl, hset, hsok, hlen, hb2⟩
    have hb02 : Below w.heap.size w w2 := hb1.trans (hb2.mono hs1)
    have hs2 := hb02.size
    have hb3 : Below w.heap.size w (w2.alloc (.cells #[.slice none 0 0] 31)) := hb02.alloc hs2 _
    have hb23 : Below w2.heap.size w2 (w2.alloc (.cells #[.slice none 0 0] 31)) := (Below.refl _ _).alloc (Nat.le_refl _) _
    have HSET : Hid (SetAt (w2.alloc (.cells #[.slice none 0 0] 31)).heap.size (w2.alloc (.cells #[.slice none 0 0] 31)) S srcs) := (hset.below hb23).mono hb23.size
    have HZ : Hid ((w2.alloc (.cells #[.slice none 0 0] 31)).cell? ⟨w2.heap.size, 0, none⟩ = some (.slice none 0 0)) := by
      show _ = _
      rw [World.cell?_alloc_at _ _ _ _ rfl]; rfl
    have hsz3 : (w2.alloc (.cells #[.slice none 0 0] 31)).heap.size = w2.heap.size + 1 := by simp
    have HSOK := Lib.hid hsok
    have HB3 := Lib.hid hb3
    clear hset hsok hb1 hb2 hb02 hb23 hb3
    go_wp2_with fail
    go_at_call 7
    obtain ⟨w3, hw3⟩ : ∃ w3, w2.alloc (.cells #[.slice none 0 0] 31) = w3 := ⟨_, rfl⟩
    rw [hw3] at HSET HZ HB3 hsz3 ⊢
    clear hw3
    have T3 : Lib.TabBelow Ybad.prog w3.heap.size w3 "internal/strconv.uint64pow10" .u64 Lib.pow10Tab := fun W hW => HT.out W (HB3.out.trans (hW.mono (by omega)))
    refine (string_any S srcs w3 HSET.out HSOK.out hlen (HP.out.below hg HB3.out) (HG.out.below (by omega) HB3.out) T3 (by omega)).mono ?_
    rintro e w4 ⟨T, rfl, hT, hb34⟩
    have hs4 := hb34.size
    have HB4 : Hid (Below w.heap.size w w4) := HB3.out.trans (hb34.mono (by omega))
    have HSET4 := Lib.hid ((HSET.out.below hb34).mono hs4)
    have HZ4 : Hid (w4.cell? ⟨w2.heap.size, 0, none⟩ = some (.slice none 0 0)) := (hb34.cell (p := ⟨w2.heap.size, 0, none⟩) (by show w2.heap.size < w3.heap.size; omega)).trans HZ.out
    have HTT := Lib.hid hT
    clear hb34 hT T3
    go_wp2_with fail
    go_at_call 9
    refine (textLen_any S srcs w4 HSET4.out HSOK.out hlen (HP.out.below hg HB4.out) (by omega)).mono ?_
    rintro e w5 ⟨rfl, hb45⟩
    have hs5 := hb45.size
    have HB5 : Hid (Below w.heap.size w w5) := HB4.out.trans (hb45.mono (by omega))
    have HZ5 : Hid (w5.cell? ⟨w2.heap.size, 0, none⟩ = some (.slice none 0 0)) := (hb45.cell (p := ⟨w2.heap.size, 0, none⟩) (by show w2.heap.size < w4.heap.size; omega)).trans HZ4.out
    have HSZ : Hid (SetAt w5.heap.size w5 w2.heap.size []) := ⟨by omega, none, 0, HZ5.out, fun k s h => by simp at h⟩
    have T5 : Lib.TabBelow Ybad.prog w5.heap.size w5 "internal/strconv.uint64pow10" .u64 Lib.pow10Tab := fun W hW => HT.out W (HB5.out.trans (hW.mono (by omega)))
    have HT5 := Lib.hid T5
    have htl : (T.size : Int) = (total none srcs : Int) := by rw [HTT.out]
    clear hb45 T5
    go_wp2_with fail
    go_at_call 7
    refine (string_any w2.heap.size [] w5 HSZ.out (fun s h => by simp at h) (by simp) (HP.out.below hg HB5.out) (HG.out.below (by omega) HB5.out) HT5.out (by omega)).mono ?_
    rintro e w6 ⟨T2, rfl, hT2, hb56⟩
    have hb6 : Below w.heap.size w w6 := HB5.out.trans (hb56.mono (by omega))
    obtain rfl : T2 = ⟨#[]⟩ := by
      rw [total_nil] at hT2
      obtain ⟨d⟩ := T2
      have : d.size = 0 := hT2
      rw [Array.eq_empty_of_size_eq_zero this]
    go_wp2_with fail
    go_ret
    exact ⟨rfl, hb6⟩
end Go.Proofs.YbulkayguDoor
