import Derived.Test.YbulkayguDoorSteps
import Derived.Deep.RegionHeld3
namespace Go.Proofs.YbulkayguDoor
open Go Go.RowKit

theorem Bd.drew {w wr : World} {b scr N : Nat} (h : Bd w wr b scr N) : Bd w wr.drew b scr N := h.drewN 1
theorem uu_size (hi lo : Int) : (Ybad.prog.info? 40).map (·.size) = some (uuCells hi lo).length := Ybad.size40
theorem uu_one (hi lo : Int) : ∀ v ∈ uuCells hi lo, v.oneCell' = true := by
  intro v hv
  simp [uuCells] at hv
  rcases hv with rfl | rfl | rfl | rfl | rfl <;> rfl

theorem uu_in_src (s : Src) (v : Value) : ∀ (j : Nat) (u : Value), (uuCells s.hi s.lo)[j]? = some u → (srcCells s v)[j]? = some u := by
  intro j u h
  have e : srcCells s v = uuCells s.hi s.lo ++ [.string s.tag, v] := rfl
  rw [e]
  have hlt : j < (uuCells s.hi s.lo).length := by
    rcases Nat.lt_or_ge j (uuCells s.hi s.lo).length with h' | h'
    · exact h'
    · rw [List.getElem?_eq_none h'] at h; cases h
  rw [List.getElem?_append_left hlt]
  exact h

set_option maxRecDepth 100000 in
set_option maxHeartbeats 4000000 in
theorem string_any (S : Nat) (srcs : List Src) (w : World) (hset : SetAt w.heap.size w S srcs) (hok : ∀ s ∈ srcs, s.Ok) (hlen : srcs.length ≤ 1024) (hp : Pow w) (hgr : Grp w) (htab : Lib.TabBelow Ybad.prog w.heap.size w "internal/strconv.uint64pow10" .u64 Lib.pow10Tab) (hg : 1 < w.heap.size) :
    Calls Ybad.prog 7 #[.pointer (some ⟨S, 0, none⟩)] w fun e w' => ∃ T, e = .returned (.string T) ∧ T.size = total none srcs ∧ Below w.heap.size w w' := by
  have HSET := Lib.hid hset
  obtain ⟨hS, ao, cap, hcell, hsrc⟩ := hset
  have HS := Lib.hid hsrc
  have HOK := Lib.hid hok
  have HP := Lib.hid hp
  have HG := Lib.hid hgr
  have HT := Lib.hid htab
  have htot0 : total none srcs ≤ 25600000 := by
    have h1 := total_le srcs none hok
    omega
  clear hsrc hok hp hgr htab
  go_enter Ybad.func7, Ybad.ntmps7
  go_wp2_with fail
  go_at_call 9
  have hb0 : Below w.heap.size w (w.alloc (.cells #[.pointer none, .slice none 0 0] 51)) := (Below.refl _ _).alloc (Nat.le_refl _) _
  have hsz0 : (w.alloc (.cells #[.pointer none, .slice none 0 0] 51)).heap.size = w.heap.size + 1 := by simp
  refine (textLen_any S srcs _ ((HSET.out.below hb0).mono (by omega)) HOK.out hlen (HP.out.below hg hb0) (by omega)).mono ?_
  rintro e w1 ⟨rfl, hb1⟩
  have hbk1 : w1.heap[w.heap.size]? = some (.cells #[.pointer none, .slice none 0 0] 51 (0, 0)) := (hb1.block _ (by omega)).trans (heap_alloc_new w _)
  have hb01 : Below w.heap.size w w1 := hb0.trans (hb1.mono (by omega))
  have HBK := Lib.hid hbk1
  clear hb0 hb1 hbk1 HSET
  go_wp2_with fail
  go_at_call 10
  refine (Ybad.Builder_Grow_fresh w.heap.size w.heap.size (total none srcs) w1 (Nat.le_refl _) HBK.out hb01.size (by omega)).mono ?_
  rintro e w2 ⟨rfl, hbd, hb2⟩
  have HBD := Lib.hid hbd
  have hb02 : Below w.heap.size w w2 := hb01.trans hb2
  have hcell2 : w2.cell? ⟨S, 0, none⟩ = some (.slice ao srcs.length cap) := (hb02.cell (p := ⟨S, 0, none⟩) hS).trans hcell
  clear hbd hb01 hb2 HBK
  have hsz2 := hb02.size
  have hS2 : S < w2.heap.size := by omega
  go_wp2_with fail
  go_loopw [5, 6, 8, 17] (fun _ _ _ s17 wr => ∃ k : Nat, k ≤ srcs.length ∧ s17 = .int .i64 k ∧ Bd w wr w.heap.size w2.heap.size (total none (srcs.take k)))
    (fun _ _ _ s17 _ => srcs.length - (intOf s17).toNat)
  case atStart => exact ⟨0, by omega, rfl, Bd.start HBD.out hb02 _ rfl (fun i hi => by show ((List.replicate 36 (Value.int .u8 0)).toArray)[i]? = _; rw [List.getElem?_toArray, List.getElem?_replicate, if_pos hi])⟩
  case round =>
    obtain ⟨k, hk, rfl, hbd⟩ := hrel
    have HB := Lib.hid hbd
    have hbel := hbd.bel
    have hszr := hbel.size
    have hlts := hbd.lt
    have hbne := hbd.ne
    clear hbd HBD
    by_cases hlt : k < srcs.length
    · obtain ⟨s, hs⟩ : ∃ s, srcs[k]? = some s := ⟨_, List.getElem?_eq_getElem hlt⟩
      obtain ⟨R, rfl, hR, v, hrng, hiv⟩ := HS.out k s hs
      have hsok := HOK.out s (List.mem_of_getElem? hs)
      have HTT : Hid (total none (srcs.take (k + 1)) = total none (srcs.take k) + srcLen (prevOf srcs k) s) := total_take srcs none k s hs
      have htot : total none (srcs.take k) ≤ 25600000 := by
        have h1 := total_le (srcs.take k) none (fun x hx => HOK.out x (List.mem_of_mem_take hx))
        have h2 : (srcs.take k).length ≤ 1024 := by rw [List.length_take]; omega
        omega
      have hcr : wr.cell? ⟨S, 0, none⟩ = some (.slice (some ⟨R, 0, none⟩) srcs.length cap) := (hbel.cell (p := ⟨S, 0, none⟩) hS).trans hcell
      obtain ⟨G, capG, rfl, hG, hivc⟩ := hiv
      have hrr : wr.rangeAt R (k * 18) (srcCells s (.slice (some ⟨G, 0, none⟩) s.ivs.length capG)) := fun j u hu => (hbel.cell (p := ⟨R, k * 18 + j, none⟩) hR).trans (hrng j u hu)
      have HRR := Lib.hid hrr
      have HIV := Lib.hid hivc
      have HOKS := Lib.hid hsok
      clear hivc hrr hrng hcell hsok hcell2
      go_upto_region 7 with (first
        | (refine wpList_load_mid rfl 48 (.tmp 20) rfl R (k * 18) rfl (srcCells s (.slice (some ⟨G, 0, none⟩) s.ivs.length capG)) _ HRR.out Ybad.underlying48 rfl Ybad.size48 ?_)
        | (refine wpList_fill2 rfl 48 (.tmp 6) (.tmp 21) rfl rfl _ (srcCells s (.slice (some ⟨G, 0, none⟩) s.ivs.length capG)) rfl rfl (z48 _ _ _ rfl) Ybad.size48 (srcCells_one _ _ _ _) (by decide) ?_; intro wb hxb hbb hsb; refine Hid.out ?_))
      refine Lib.hid ?_
      have HBX := Lib.hid hxb
      have HBW := Lib.hid (HB.out.below hbb)
      clear hxb HB
      go_upto_region 7 with fail
      go_cut [39] (fun s39 wx => s39 = .bool (hdB (prevOf srcs k) s) ∧ ∃ nq, wx = wb.drewN nq)
      case first =>
        by_cases hk0 : k = 0
        · have hk0' : ((k : Int) == 0) = true := by simp; omega
          have HK0 : Hid (k = 0) := hk0
          clear hk0
          go_quiet (fail)
          go_wp2_with fail
          go_meet
          case rel => exact ⟨by unfold prevOf; rw [if_pos HK0.out]; rfl, _, rfl⟩
        · have hk0' : ((k : Int) == 0) = false := by simp; omega
          obtain ⟨c0, c1, c2, c3, c4, c5, c6, c7, c8, c9, c10, c11, c12, c13, c14, c15, _, _⟩ := srcCells_of HBX.out.range
          simp only [Nat.zero_add] at c1 c2 c3 c4 c5 c6 c7 c8 c9 c10 c11 c12 c13 c14 c15
          obtain ⟨kp, hkp⟩ : ∃ kp, k = kp + 1 := ⟨k - 1, by omega⟩
          have hw1 : IntKind.i64.wrap ((k : Int) - 1) = (kp : Int) := by rw [IntKind.wrap_i64]; omega
          have hkl : (kp : Int) < (srcs.length : Int) := by omega
          obtain ⟨sp, hsp⟩ : ∃ sp, srcs[kp]? = some sp := ⟨_, List.getElem?_eq_getElem (by omega)⟩
          have HPV : Hid (hdB (prevOf srcs k) s = (!(s.hi == sp.hi) || !(s.lo == sp.lo))) := by
            show hdB (prevOf srcs k) s = _
            unfold prevOf
            rw [if_neg hk0, show k - 1 = kp from by omega, hsp]
            rfl
          clear hkp
          obtain ⟨R', eR, _, vp, hrp, _⟩ := HS.out kp sp hsp
          obtain rfl : R = R' := by simpa using eR
          have hcb : wb.cell? ⟨S, 0, none⟩ = some (.slice (some ⟨R, 0, none⟩) srcs.length cap) := (hbb.cell (p := ⟨S, 0, none⟩) (by show S < wr.heap.size; omega)).trans hcr
          have hrp' : wb.rangeAt R (kp * 18) (srcCells sp vp) := fun j u hu => (hbb.cell (p := ⟨R, kp * 18 + j, none⟩) (by show R < wr.heap.size; omega)).trans ((hbel.cell (p := ⟨R, kp * 18 + j, none⟩) hR).trans (hrp j u hu))
          obtain ⟨d0, d1, d2, d3, d4, d5, d6, d7, d8, d9, d10, d11, d12, d13, d14, d15, _, _⟩ := srcCells_of hrp'
          clear hrp' hrp hcr eR hk0 hsp
          have hgd : Ybad.prog.eqGuardType Ybad.prog.depth 40 = false := guard40
          have hue : ∀ w, (Op.equalIn 10000 40 (.agg #[.int .u8 s.hi, .int .u8 s.lo, .int .u8 0, .int .u8 0, .int .u8 0, .int .u8 171, .int .u8 0, .int .u8 0, .int .u8 0, .int .u8 0, .int .u8 0, .int .u8 0, .int .u8 0, .int .u8 0, .int .u8 0, .int .u8 0]) (.agg #[.int .u8 sp.hi, .int .u8 sp.lo, .int .u8 0, .int .u8 0, .int .u8 0, .int .u8 171, .int .u8 0, .int .u8 0, .int .u8 0, .int .u8 0, .int .u8 0, .int .u8 0, .int .u8 0, .int .u8 0, .int .u8 0, .int .u8 0])).run Ybad.prog w = .ok (s.hi == sp.hi && s.lo == sp.lo) w := fun w => uu_equal s.hi s.lo sp.hi sp.lo w
          go_quiet (fail)
          go_wp2_with fail
          go_meet
          case rel => exact ⟨by rw [HPV.out], _, rfl⟩
      case rest =>
        obtain ⟨hs39, nq, hwx⟩ := hcut
        obtain ⟨hd, hhd⟩ : ∃ hd, hdB (prevOf srcs k) s = hd := ⟨_, rfl⟩
        rw [hhd] at hs39
        have HHD : Hid (hdB (prevOf srcs k) s = hd) := hhd
        have HBC := Lib.hid (HBW.out.drewN nq)
        have HXC : Hid (BoxAt (wb.drewN nq) wr.heap.size (srcCells s (.slice (some ⟨G, 0, none⟩) s.ivs.length capG))) := HBX.out
        rw [← hwx] at HBC HXC
        subst hs39
        clear hhd hcr hwx HBW HBX HRR hbel hbb
        have hxb : wr.heap.size ≠ w.heap.size := by omega
        have hxs : wr.heap.size ≠ w2.heap.size := by omega
        obtain ⟨H1, hH1⟩ : ∃ H1, headLen (prevOf srcs k) s = H1 := ⟨_, rfl⟩
        have HH1 : Hid (headLen (prevOf srcs k) s = H1) := hH1
        have hH1b : H1 ≤ 38 := by
          rw [← hH1]
          cases hd
          · rw [(head_no HHD.out hk).1]; omega
          · rw [head_yes hk HHD.out]; split <;> omega
        clear hH1
        go_upto_if 39 with fail
        go_cut [] (fun wx => Bd w wx w.heap.size w2.heap.size (total none (srcs.take k) + H1) ∧ BoxAt wx wr.heap.size (srcCells s (.slice (some ⟨G, 0, none⟩) s.ivs.length capG)))
        case first =>
          cases hd
          · have e := (head_no HHD.out hk).1
            rw [HH1.out] at e
            have HE := Lib.hid e
            clear e
            go_wp2_with fail
            go_meet
            case rel => exact ⟨by rw [HE.out]; exact HBC.out, HXC.out⟩
          · have e := head_yes hk HHD.out
            rw [HH1.out] at e
            have HE := Lib.hid e
            clear e
            have HHI : Hid (0 ≤ s.hi ∧ s.hi < 256) := ⟨HOKS.out.hi0, by have := HOKS.out.hi1; omega⟩
            have HLO : Hid (0 ≤ s.lo ∧ s.lo < 256) := ⟨HOKS.out.lo0, by have := HOKS.out.lo1; omega⟩
            by_cases hk0 : 0 < k
            · go_wp2_with fail
              go_at_call 11
              refine (writeString_step w.heap.size w2.heap.size _ ⟨#[44, 10]⟩ (by decide) w _ HBC.out (by omega)).mono ?_
              rintro e w3 ⟨⟨r, rfl⟩, hb3, hk3⟩
              have HB3 : Hid (Bd w w3 w.heap.size w2.heap.size (total none (srcs.take k) + 2)) := hb3
              have HX3 := Lib.hid (HXC.out.kp hk3 hxb hxs)
              have hr3 : w3.rangeAt wr.heap.size 0 (uuCells s.hi s.lo) := fun j u hu => HX3.out.range j u (uu_in_src s _ j u hu)
              clear hb3 hk3 HBC HXC
              go_wp2_with fail
              have hu40 := Ybad.underlying40
              have hi40 := uu_size s.hi s.lo
              have hl40 : (uuCells s.hi s.lo).length = 16 := rfl
              have ho40 := uu_one s.hi s.lo
              go_region_held3 (fun W => W.rangeAt wr.heap.size 0 (uuCells s.hi s.lo)) (first | assumption | exact hr5 | exact hr4 | go_keep_ranges)
                (first
                  | (go_at_call 13; refine (appendText_step w.heap.size w2.heap.size _ s.hi s.lo HHI.out HLO.out w _ (by first | exact HB3.out | exact HB3.out.drew | exact HB3.out.drewN _) HG.out (by omega)).mono ?_; rintro e w4 ⟨rfl, hb4, hk4⟩; have hx4 := HX3.out.kp hk4 hxb hxs; have hr4 : w4.rangeAt wr.heap.size 0 (uuCells s.hi s.lo) := fun j u hu => hx4.range j u (uu_in_src s _ j u hu))
                  | (go_at_call 12; refine (write_step w.heap.size w2.heap.size _ 36 (by omega) w _ (by first | exact hb4 | exact hb4.drew | exact hb4.drewN _) (by omega)).mono ?_; rintro e w5 ⟨⟨r5, rfl⟩, hb5, hk5⟩; have hx5 := hx4.kp hk5 hxb hxs; have hr5 : w5.rangeAt wr.heap.size 0 (uuCells s.hi s.lo) := fun j u hu => hx5.range j u (uu_in_src s _ j u hu)))
              have HB5 : Hid (Bd w w5 w.heap.size w2.heap.size (total none (srcs.take k) + H1)) := by
                have e := HE.out
                rw [if_neg (by omega)] at e
                rw [e]
                exact hb5
              have HX5 := Lib.hid hx5
              clear hb5 hx5 hb4 hx4 hk4 hk5 hu40 hi40 hl40 ho40
              go_wp2_with fail
              go_meet
              case rel => exact ⟨HB5.out, HX5.out⟩
            · have hr3 : wc.rangeAt wr.heap.size 0 (uuCells s.hi s.lo) := fun j u hu => HXC.out.range j u (uu_in_src s _ j u hu)
              go_wp2_with fail
              have hu40 := Ybad.underlying40
              have hi40 := uu_size s.hi s.lo
              have hl40 : (uuCells s.hi s.lo).length = 16 := rfl
              have ho40 := uu_one s.hi s.lo
              go_region_held3 (fun W => W.rangeAt wr.heap.size 0 (uuCells s.hi s.lo)) (first | assumption | exact hr5 | exact hr4 | go_keep_ranges)
                (first
                  | (go_at_call 13; refine (appendText_step w.heap.size w2.heap.size _ s.hi s.lo HHI.out HLO.out w _ (by first | exact HBC.out | exact HBC.out.drew | exact HBC.out.drewN _) HG.out (by omega)).mono ?_; rintro e w4 ⟨rfl, hb4, hk4⟩; have hx4 := HXC.out.kp hk4 hxb hxs; have hr4 : w4.rangeAt wr.heap.size 0 (uuCells s.hi s.lo) := fun j u hu => hx4.range j u (uu_in_src s _ j u hu))
                  | (go_at_call 12; refine (write_step w.heap.size w2.heap.size _ 36 (by omega) w _ (by first | exact hb4 | exact hb4.drew | exact hb4.drewN _) (by omega)).mono ?_; rintro e w5 ⟨⟨r5, rfl⟩, hb5, hk5⟩; have hx5 := hx4.kp hk5 hxb hxs; have hr5 : w5.rangeAt wr.heap.size 0 (uuCells s.hi s.lo) := fun j u hu => hx5.range j u (uu_in_src s _ j u hu)))
              have HB5 : Hid (Bd w w5 w.heap.size w2.heap.size (total none (srcs.take k) + H1)) := by
                have e := HE.out
                rw [if_pos (by omega)] at e
                rw [e]
                exact hb5
              have HX5 := Lib.hid hx5
              clear hb5 hx5 hb4 hx4 hk4 hk5 hu40 hi40 hl40 ho40
              go_wp2_with fail
              go_meet
              case rel => exact ⟨HB5.out, HX5.out⟩
        case rest =>
          obtain ⟨hbc, hxc⟩ := hcut
          clear HBC HXC
          have HBC := Lib.hid hbc
          have HXC := Lib.hid hxc
          have c16 : wc.cell? ⟨wr.heap.size, 16, none⟩ = some (.string s.tag) := hxc.cell rfl
          clear hbc hxc
          obtain ⟨N1, hN1⟩ : ∃ N1, total none (srcs.take k) + H1 = N1 := ⟨_, rfl⟩
          rw [hN1] at HBC
          have HN1 : Hid (total none (srcs.take k) + H1 = N1) := hN1
          have hN1b : N1 ≤ 25600050 := by omega
          clear hN1
          go_upto_if 52 with fail
          obtain ⟨T1, hT1⟩ : ∃ T1, tagLen s.tag = T1 := ⟨_, rfl⟩
          have HT1 : Hid (tagLen s.tag = T1) := hT1
          have htg := HOKS.out.tag
          have hT1b : T1 ≤ 5 := by rw [← hT1]; unfold tagLen; split <;> omega
          clear hT1
          go_cut [] (fun wx => Bd w wx w.heap.size w2.heap.size (N1 + T1) ∧ BoxAt wx wr.heap.size (srcCells s (.slice (some ⟨G, 0, none⟩) s.ivs.length capG)))
          case first =>
            have htl : s.tag.toList.length = s.tag.size := by rw [Lib.toList_data, ← Lib.size_eq]
            obtain ⟨tb, htb⟩ : ∃ tb, (!s.tag.toList.isEmpty) = tb := ⟨_, rfl⟩
            rw [htb]
            have HTB : Hid (T1 = if tb then 1 + s.tag.size else 0) := by
              show T1 = if tb then 1 + s.tag.size else 0
              rw [← HT1.out, ← htb]
              unfold tagLen
              cases hl : s.tag.toList with
              | nil => rw [hl] at htl; simp at htl; simp [← htl]
              | cons x r => rw [hl] at htl; simp only [List.length_cons] at htl; rw [if_neg (by omega)]; rfl
            clear htb htl
            cases tb
            · go_wp2_with fail
              go_meet
              case rel => exact ⟨by have := HTB.out; simp at this; rw [this]; exact HBC.out, HXC.out⟩
            · go_wp2_with fail
              go_at_call 14
              refine (writeByte_step w.heap.size w2.heap.size _ 58 58 rfl w _ HBC.out (by omega)).mono ?_
              rintro e w3 ⟨⟨r, rfl⟩, hb3, hk3⟩
              have HB3 := Lib.hid hb3
              have hx3 := HXC.out.kp hk3 hxb hxs
              have HX3 := Lib.hid hx3
              have d16 : w3.cell? ⟨wr.heap.size, 16, none⟩ = some (.string s.tag) := hx3.cell rfl
              clear hb3 hk3 hx3
              go_wp2_with fail
              go_at_call 11
              refine (writeString_step w.heap.size w2.heap.size _ s.tag (by omega) w _ HB3.out (by omega)).mono ?_
              rintro e w4 ⟨⟨r4, rfl⟩, hb4, hk4⟩
              have HB4 : Hid (Bd w w4 w.heap.size w2.heap.size (N1 + T1)) := by
                have e := HTB.out
                rw [if_pos trivial] at e
                rw [e, ← Nat.add_assoc]
                exact hb4
              have HX4 := Lib.hid (HX3.out.kp hk4 hxb hxs)
              clear hb4 hk4
              go_wp2_with fail
              go_meet
              case rel => exact ⟨HB4.out, HX4.out⟩
          case rest =>
            obtain ⟨hbc, hxc⟩ := hcut
            clear HBC HXC c16
            have HBC := Lib.hid hbc
            have c17 : wc.cell? ⟨wr.heap.size, 17, none⟩ = some (.slice (some ⟨G, 0, none⟩) s.ivs.length capG) := hxc.cell rfl
            clear hbc hxc
            obtain ⟨N0, hN0⟩ : ∃ N0, N1 + T1 = N0 := ⟨_, rfl⟩
            rw [hN0] at HBC
            have HN0 : Hid (N1 + T1 = N0) := hN0
            have hN0b : N0 ≤ 25600100 := by omega
            clear hN0
            have hivl := HOKS.out.len
            go_wp2_with fail
            go_loopw [8, 61] (fun _ s61 wi => ∃ j : Nat, j ≤ s.ivs.length ∧ s61 = .int .i64 j ∧ Bd w wi w.heap.size w2.heap.size (N0 + ivsLen (s.ivs.take j)))
              (fun _ s61 _ => s.ivs.length - (intOf s61).toNat)
            case atStart => exact ⟨0, by omega, rfl, HBC.out⟩
            case round =>
              obtain ⟨j, hj, rfl, hbi⟩ := hrel
              obtain ⟨wi, rfl⟩ : ∃ wi, wi = wr := ⟨_, rfl⟩
              have HBI := Lib.hid hbi
              have hbel := hbi.bel
              have hlti := hbi.lt
              have hib : wi.heap.size ≠ w.heap.size := by omega
              have his : wi.heap.size ≠ w2.heap.size := by omega
              clear hbi HBC c17
              by_cases hjl : j < s.ivs.length
              · obtain ⟨p, hp⟩ : ∃ p, s.ivs[j]? = some p := ⟨_, List.getElem?_eq_getElem hjl⟩
                have hivok := HOKS.out.ivs p (List.mem_of_getElem? hp)
                have hil : ivsLen (s.ivs.take j) ≤ 24000 := by
                  have h1 := ivsLen_le (s.ivs.take j) (fun x hx => HOKS.out.ivs x (List.mem_of_mem_take hx))
                  have h2 : (s.ivs.take j).length ≤ 600 := by rw [List.length_take]; omega
                  omega
                have HIL : Hid (ivsLen (s.ivs.take (j + 1)) = ivsLen (s.ivs.take j) + ivLen p.1 p.2) := ivsLen_take s.ivs j p hp
                obtain ⟨g1, g2⟩ := HIV.out j p hp
                have k1 := (hbel.cell (p := ⟨G, j * 2, none⟩) hG).trans g1
                have k2 := (hbel.cell (p := ⟨G, j * 2 + 1, none⟩) hG).trans g2
                obtain ⟨A, hA⟩ : ∃ A : Nat, p.1 = A := ⟨p.1.toNat, by omega⟩
                obtain ⟨E, hE⟩ : ∃ E : Nat, p.2 = E := ⟨p.2.toNat, by omega⟩
                rw [hA] at k1 hivok HIL
                rw [hE] at k2 hivok HIL
                have hA1 : 1 ≤ A := by omega
                have hA2 : A ≤ 4700000000000000000 := by omega
                have hE1 : 1 ≤ E := by omega
                have hE2 : E ≤ 4700000000000000000 := by omega
                have n1 := nDigits_le19 A (by omega)
                have n2 := nDigits_le19 E (by omega)
                obtain ⟨M0, hM0⟩ : ∃ M0, N0 + ivsLen (s.ivs.take j) = M0 := ⟨_, rfl⟩
                rw [hM0] at HBI
                have HM0 : Hid (N0 + ivsLen (s.ivs.take j) = M0) := hM0
                have hM0b : M0 ≤ 25700000 := by omega
                clear g1 g2 hp hA hE hivok hM0 hbel
                go_wp2_with fail
                go_at_call 14
                refine (writeByte_step w.heap.size w2.heap.size _ 58 58 rfl w _ (HBI.out.alloc _) (by omega)).mono ?_
                rintro e w3 ⟨⟨r3, rfl⟩, hb3, hk3⟩
                have HB3 := Lib.hid hb3
                have hx3 : BoxAt w3 wi.heap.size [.int .i64 (A : Int), .int .i64 (E : Int)] := (BoxAt.new wi _ 44 (by decide)).kp hk3 hib his
                have HX3 := Lib.hid hx3
                have e0 : w3.cell? ⟨wi.heap.size, 0, none⟩ = some (.int .i64 (A : Int)) := hx3.cell rfl
                clear hb3 hk3 hx3 k1 k2
                go_wp2_with fail
                go_region_held3 (fun W => W.cell? ⟨wi.heap.size, 0, none⟩ = some (.int .i64 (A : Int))) (first | assumption | go_keep)
                  (first
                    | (go_at_call 15; refine (appendInt_step w.heap.size w2.heap.size _ A (by omega) (by omega) w _ (by first | exact HB3.out | exact HB3.out.drew | exact HB3.out.drewN _) HT.out).mono ?_; rintro e wya ⟨rfl, hbwya, hkwya⟩; have hxwya := HX3.out.kp hkwya hib his; have hrwya : wya.cell? ⟨wi.heap.size, 0, none⟩ = some (.int .i64 (A : Int)) := hxwya.cell rfl)
                    | (go_at_call 12; refine (write_step w.heap.size w2.heap.size _ (Lib.nDigits A) (by omega) w _ (by first | exact hbwya | exact hbwya.drew | exact hbwya.drewN _) (by omega)).mono ?_; rintro e wyb ⟨⟨rwyb, rfl⟩, hbwyb, hkwyb⟩; have hxwyb := hxwya.kp hkwyb hib his; have hrwyb : wyb.cell? ⟨wi.heap.size, 0, none⟩ = some (.int .i64 (A : Int)) := hxwyb.cell rfl))
                have HBwyb := Lib.hid hbwyb
                have HXwyb := Lib.hid hxwyb
                clear hbwyb hbwya hxwya hkwya hkwyb hrwya hrwyb
                have e1 : wyb.cell? ⟨wi.heap.size, 0, none⟩ = some (.int .i64 (A : Int)) := HXwyb.out.cell rfl
                have e2 : wyb.cell? ⟨wi.heap.size, 1, none⟩ = some (.int .i64 (E : Int)) := HXwyb.out.cell rfl
                by_cases hAE : E = A
                · have hne : ((E : Int) != (A : Int)) = false := by simp; omega
                  have HAE : Hid (E = A) := hAE
                  clear hAE
                  go_wp2_with fail
                  go_roundw
                  case rel =>
                    refine ⟨j + 1, by omega, by go_num, ?_⟩
                    have e : N0 + ivsLen (s.ivs.take (j + 1)) = M0 + 1 + Lib.nDigits A := by
                      have h1 := HIL.out
                      unfold ivLen at h1
                      rw [if_pos (by have := HAE.out; omega)] at h1
                      have h2 := HM0.out
                      simp at h1
                      omega
                    rw [e]
                    exact HBwyb.out
                  case measure => simp [intOf]; omega
                · have hne : ((E : Int) != (A : Int)) = true := by simp; omega
                  have HAE : Hid (¬ E = A) := hAE
                  clear hAE
                  go_wp2_with fail
                  go_at_call 14
                  refine (writeByte_step w.heap.size w2.heap.size _ 45 45 rfl w _ HBwyb.out (by omega)).mono ?_
                  rintro e w6 ⟨⟨r6, rfl⟩, hb6, hk6⟩
                  have HB6 := Lib.hid hb6
                  have hx6 := HXwyb.out.kp hk6 hib his
                  have HX6 := Lib.hid hx6
                  have e6 : w6.cell? ⟨wi.heap.size, 1, none⟩ = some (.int .i64 (E : Int)) := hx6.cell rfl
                  clear hb6 hk6 hx6
                  go_wp2_with fail
                  go_region_held3 (fun W => W.cell? ⟨wi.heap.size, 1, none⟩ = some (.int .i64 (E : Int))) (first | assumption | go_keep)
                    (first
                      | (go_at_call 15; refine (appendInt_step w.heap.size w2.heap.size _ E (by omega) (by omega) w _ (by first | exact HB6.out | exact HB6.out.drew | exact HB6.out.drewN _) HT.out).mono ?_; rintro e wza ⟨rfl, hbwza, hkwza⟩; have hxwza := HX6.out.kp hkwza hib his; have hrwza : wza.cell? ⟨wi.heap.size, 1, none⟩ = some (.int .i64 (E : Int)) := hxwza.cell rfl)
                      | (go_at_call 12; refine (write_step w.heap.size w2.heap.size _ (Lib.nDigits E) (by omega) w _ (by first | exact hbwza | exact hbwza.drew | exact hbwza.drewN _) (by omega)).mono ?_; rintro e wzb ⟨⟨rwzb, rfl⟩, hbwzb, hkwzb⟩; have hxwzb := hxwza.kp hkwzb hib his; have hrwzb : wzb.cell? ⟨wi.heap.size, 1, none⟩ = some (.int .i64 (E : Int)) := hxwzb.cell rfl))
                  have HBwzb := Lib.hid hbwzb
                  have HXwzb := Lib.hid hxwzb
                  clear hbwzb hbwza hxwza hkwza hkwzb hrwza hrwzb
                  go_wp2_with fail
                  go_roundw
                  case rel =>
                    refine ⟨j + 1, by omega, by go_num, ?_⟩
                    have e : N0 + ivsLen (s.ivs.take (j + 1)) = M0 + 1 + Lib.nDigits A + 1 + Lib.nDigits E := by
                      have h1 := HIL.out
                      unfold ivLen at h1
                      rw [if_neg (by have := HAE.out; omega)] at h1
                      have h2 := HM0.out
                      simp at h1
                      omega
                    rw [e]
                    exact HBwzb.out
                  case measure => simp [intOf]; omega
              · obtain rfl : j = s.ivs.length := by omega
                rw [List.take_length] at HBI
                have HM : Hid (N0 + ivsLen s.ivs = total none (srcs.take (k + 1))) := by
                  show _ = _
                  rw [HTT.out, ← HN0.out, ← HN1.out]
                  unfold srcLen
                  rw [HH1.out, HT1.out]
                  omega
                go_wp2_with fail
                go_roundw
                case rel => exact ⟨k + 1, by omega, by go_num, by rw [← HM.out]; exact HBI.out⟩
                case measure => simp [intOf]; omega
    · obtain rfl : k = srcs.length := by omega
      obtain ⟨L, hL, hbl⟩ := HB.out.bld
      rw [List.take_length] at hL
      have HBL := Lib.hid hbl
      have HLL := Lib.hid hL
      clear hbl hL
      go_wp2_with fail
      go_at_call 16
      refine (Ybad.Builder_String_any_k w.heap.size w.heap.size L _ (Or.inr HBL.out) hszr).mono ?_
      rintro e w5 ⟨rfl, _, h6, _⟩
      go_wp2_with fail
      go_ret
      exact ⟨_, rfl, by simpa [ByteArray.size] using HLL.out, hbel.trans h6⟩
end Go.Proofs.YbulkayguDoor
