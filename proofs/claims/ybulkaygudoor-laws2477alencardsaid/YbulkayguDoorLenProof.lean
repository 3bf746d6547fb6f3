/- The proof of 'Rows.LawS2477ALenCardSaid': the row's frame with the listed tables ('laid') and the two named variables, and the tied card. -/
import Derived.Test.YbulkayguDoorLaw
import Derived.Test.YbulkayguDoorTie
import Derived.Test.YbulkayguDoorCards
import Derived.ProofKit
import Derived.LaidMore
import Derived.OpenShut
import Derived.OpenVars
import Derived.Deep.SlicePairs
import Derived.Stop.Joined
import Derived.SevenTiedAt
namespace Go.Proofs.YbulkayguDoor.lawS2477ALen
open Go Go.ChangeShapes Go.WideShapes Go.ChangeAt Go.RowKit

theorem own : ownKnob Ybad.prog.godebug = none := by kernel_rfl
theorem laidOut : laidOutB Ybad.prog = true := by kernel_rfl
theorem g64 : Ybad.prog.globalNamed "internal/strconv.uint64pow10" = some 3 := by kernel_rfl
theorem gPow : Ybad.prog.globalNamed (Rows.lawS2477ALenSpec.vars.getD 0 "") = some 1 := by kernel_rfl
theorem gGrp : Ybad.prog.globalNamed (Rows.lawS2477ALenSpec.vars.getD 1 "") = some 0 := by kernel_rfl
theorem t64 : (Ybad.prog.globals[3]?).map (·.type) = some 84 := by kernel_rfl
theorem tPow : (Ybad.prog.globals[1]?).map (·.type) = some 70 := by kernel_rfl
theorem tGrp : (Ybad.prog.globals[0]?).map (·.type) = some 66 := by kernel_rfl
theorem c84 : Ybad.prog.cellsOf 84 = 20 := by kernel_rfl
theorem c70 : Ybad.prog.cellsOf 70 = 19 := by kernel_rfl
theorem c66 : Ybad.prog.cellsOf 66 = 5 := by kernel_rfl
theorem c37 : Ybad.prog.cellsOf 37 = 1 := by kernel_rfl
theorem c2 : Ybad.prog.cellsOf 2 = 1 := by kernel_rfl
theorem c3 : Ybad.prog.cellsOf 3 = 1 := by kernel_rfl
theorem c5 : Ybad.prog.cellsOf 5 = 1 := by kernel_rfl
theorem c33 : Ybad.prog.cellsOf 33 = 1 := by kernel_rfl
theorem c35 : Ybad.prog.cellsOf 35 = 2 := by kernel_rfl
theorem rowed : varsRowed Ybad.prog Rows.lawS2477ALenSpec.vars = true := by kernel_rfl

/-- The door's own heap meets the condition. -/
theorem door_met (os : Os) (args : Array Value) : laidMetH Ybad.prog Rows.lawS2477ALenRow.laid ((World.doorLaid Ybad.prog 34 os).forCall (fun _ _ => 0) ⟨#[], args, []⟩).memory :=
  laidMetH_of_parts3 (fuel := 8) (laidMet_of_run' 8 (by kernel_rfl) (by kernel_rfl)) (by kernel_rfl) (by kernel_rfl)

def powTab : List Int := [1, 10, 100, 1000, 10000, 100000, 1000000, 10000000, 100000000, 1000000000, 10000000000, 100000000000, 1000000000000, 10000000000000, 100000000000000, 1000000000000000, 10000000000000000, 100000000000000000, 1000000000000000000]
def grpTab : List Int := [4, 2, 2, 2, 6]
theorem powTab_at : ∀ i, i < 19 → powTab[i]? = some ((10 ^ i : Nat) : Int) := by decide

/-- WHAT THE CONDITION GIVES THE WALK: the three tables. -/
theorem of_laid {W : World} (h : laidMetH Ybad.prog Rows.lawS2477ALenRow.laid W) : Lib.TabIs Ybad.prog W "internal/strconv.uint64pow10" .u64 Lib.pow10Tab ∧ Pow W ∧ Grp W ∧ 1 < W.heap.size := by
  rw [MakeChecks.laidMetH_plain _ _ _ (by kernel_rfl)] at h
  obtain ⟨ps, ⟨g0, t0, cs0, f0, p0, q0, hg0, ht0, hv0, hd0, ⟨g1, t1, cs1, f1, p1, q1, hg1, ht1, hv1, hd1, ⟨g2, t2, cs2, f2, p2, q2, hg2, ht2, hv2, hd2, ⟨g3, t3, cs3, f3, p3, q3, hg3, ht3, hv3, hd3, ⟨g4, t4, cs4, f4, p4, q4, hg4, ht4, hv4, hd4, _, _⟩, _⟩, _⟩, _⟩, _⟩, _, _⟩ := h
  obtain rfl := Option.some.inj (g64.symm.trans hg2)
  obtain rfl := Option.some.inj (t64.symm.trans ht2)
  obtain rfl := Option.some.inj (gPow.symm.trans hg3)
  obtain rfl := Option.some.inj (tPow.symm.trans ht3)
  obtain rfl := Option.some.inj (gGrp.symm.trans hg4)
  obtain rfl := Option.some.inj (tGrp.symm.trans ht4)
  have e2 : (Rows.laid_internal_strconv_uint64pow10 : DataW Unit) = Lib.tabData .u64 Lib.pow10Tab := rfl
  have e3 : (Rows.laid_example_com_tidemark_tidemark_powersOf10 : DataW Unit) = Lib.tabData .i64 powTab := rfl
  have e4 : (Rows.laid_example_com_tidemark_tidemark_uuidGroups : DataW Unit) = Lib.tabData .i64 grpTab := rfl
  have k3 := Lib.cells_of_tab Ybad.underlying70 Ybad.underlying2 c2 c70 (by rw [← e3]; exact hd3)
  have k4 := Lib.cells_of_tab Ybad.underlying66 Ybad.underlying3 c3 c66 (by rw [← e4]; exact hd4)
  have hpow : Pow W := fun i hi => by
    rw [World.var?_cell gPow hv3 i, ← Array.getElem?_toList, k3, List.getElem?_map, powTab_at i hi]
    rfl
  refine ⟨?_, hpow, ?_, World.block_lt_of_cell? W ⟨1, 0, none⟩ (hpow 0 (by omega))⟩
  · unfold Lib.TabIs
    rw [hv2, ← Lib.cells_of_tab Ybad.underlying84 Ybad.underlying37 c37 c84 (by rw [← e2]; exact hd2)]
  · refine ⟨?_, ?_, ?_, ?_, ?_⟩ <;> (rw [World.var?_cell gGrp hv4, ← Array.getElem?_toList, k4]; rfl)

section
variable {H : Type} {enc : TypeId × Value → H} {W : World}

/-- a slice of bytes that came in -/
theorem by_of {n : Nat} {V : Value} {x : DataW H × List MemPlace} (h : DataW.trod enc Ybad.prog W 0 (fun _ => true) true n 33 [V] = some x) : ∃ m, ByAt W V m := by
  rcases open_ints Ybad.underlying33 Ybad.underlying5 c5 h with ⟨hcs, _⟩ | ⟨a, len, cap, zs, hcs, _, hl, _, hzs, _, hcells, hwf⟩
  · obtain rfl : V = .slice none 0 0 := by simpa using hcs
    exact ⟨0, none, 0, rfl, fun i hi => absurd hi (by omega)⟩
  · obtain rfl : V = .slice (some a) len cap := by simpa using hcs
    rw [if_pos rfl] at hzs
    refine ⟨len, some a, cap, rfl, fun i hi => ?_⟩
    obtain ⟨b, off, rfl, hc⟩ := ints_at hcells (by omega)
    have hci := hc i (by omega)
    have hmem : zs.getD i 0 ∈ zs := by
      have hi2 : i < zs.length := by omega
      have e : zs.getD i 0 = zs[i] := by simp [List.getD, hi2]
      rw [e]
      exact List.getElem_mem _
    have hb := bounds_u8 (hwf _ hmem)
    refine ⟨b, off, rfl, World.block_lt_of_cell? W ⟨b, off + i, none⟩ hci, (zs.getD i 0).toNat, ?_, by omega⟩
    rw [hci, show (((zs.getD i 0).toNat : Nat) : Int) = zs.getD i 0 by omega]

/-- the steps that came in -/
theorem st_of {ao : Option Addr} {len cap : Nat} {d : DataW H} {p : List MemPlace} (h : DataW.Trod enc Ybad.prog W 0 (fun _ => true) true 22 (.slice ao len cap) d p) : ∃ sts, StAt W (.slice ao len cap) sts := by
  obtain ⟨fuel, h⟩ := h
  have hc : (Value.slice ao len cap).cells.toList = [.slice ao len cap] := by simp [Value.cells]
  rw [hc] at h
  rcases Deep.open_slice_pairs Ybad.underlying22 Ybad.underlying35 c35 rfl rfl c5 c33 h with ⟨hcs, _⟩ | ⟨a, len', cap', m, n, V0, V1, D0, D1, P0, P1, hcs, _, hl, _, hm, _, hall⟩
  · have e : Value.slice ao len cap = .slice none 0 0 := by simpa using hcs
    rw [e]
    exact ⟨[], none, 0, rfl, fun i st hi => by simp at hi⟩
  · have e : Value.slice ao len cap = .slice (some a) len' cap' := by simpa using hcs
    rw [e]
    rw [if_pos rfl] at hm
    subst hm
    have each : ∀ i, i < len' → ∃ st : Nat × Value × Nat, V0 i = .int .u8 st.1 ∧ st.1 ≤ 255 ∧ V1 i = st.2.1 ∧ ByAt W st.2.1 st.2.2 := by
      intro i hi
      obtain ⟨_, _, k3, k4⟩ := hall i (by omega)
      obtain ⟨z, ez, _, wz⟩ := DataW.trod_int Ybad.underlying5 k3
      obtain ⟨mm, hby⟩ := by_of k4
      have hz := bounds_u8 wz
      have ez' : V0 i = .int .u8 z := by simpa using ez
      exact ⟨(z.toNat, V1 i, mm), by rw [ez', show ((z.toNat : Nat) : Int) = z by omega], by dsimp only; omega, rfl, hby⟩
    refine ⟨(List.range len').map (fun i => if hi : i < len' then (each i hi).choose else (0, .slice none 0 0, 0)), some a, m, by simp, ?_⟩
    intro i st hi
    rw [List.getElem?_map, Option.map_eq_some_iff] at hi
    obtain ⟨i', hi', hst⟩ := hi
    have hlt : i < len' := by
      rcases Nat.lt_or_ge i len' with h' | h'
      · exact h'
      · rw [List.getElem?_eq_none (by simpa using h')] at hi'; cases hi'
    rw [List.getElem?_range hlt] at hi'
    obtain rfl : i = i' := by simpa using hi'
    rw [dif_pos hlt] at hst
    have hsp := (each i hlt).choose_spec
    rw [hst] at hsp
    obtain ⟨s1, s2, s3, s4⟩ := hsp
    obtain ⟨k1, k2, _, _⟩ := hall i (by omega)
    obtain ⟨b, off, spot⟩ := a
    have hspot : spot = none := by simpa [Addr.add] using World.cell?_spot (hall 0 (by omega)).1
    subst hspot
    rw [WideShapes.add_plain] at k1 k2
    refine ⟨b, off, rfl, World.block_lt_of_cell? W ⟨b, off + i * 2, none⟩ k1, by rw [k1, s1], s2, ?_, s4⟩
    rw [Nat.add_assoc, k2, s3]
end

set_option maxRecDepth 100000 in
theorem lifted (os : Os) (started : os.Started) (H : Type) (enc : TypeId × Value → H) :
    ReturnsInHanded {} Ybad.checked os 4 .any (fun w args => (Rows.lawS2477ALenSpec.pre enc Ybad.prog Ybad.f4 [] false w args ∧ laidMetH Ybad.prog Rows.lawS2477ALenRow.laid w) ∧ sizedMet enc Ybad.prog Ybad.f4 (OpenSpec.ofChange Rows.lawS2477ALenSpec) false w args)
      (Rows.lawS2477ALenSpec.post enc Ybad.prog Ybad.f4 false true false false) := by
  refine returnsInHanded_of_change_and (C := Ybad.checked) (X := fun w _ => laidMetH Ybad.prog Rows.lawS2477ALenRow.laid w) (fun _ _ _ hh h => h.of_heap hh) own started (by kernel_rfl) Ybad.func4
    (ChangeSpec.witness_shaped (enc := enc) (C := Ybad.checked) (os := os) (X := fun w _ => laidMetH Ybad.prog Rows.lawS2477ALenRow.laid w) false (World.doorLaid Ybad.prog 34 os) #[.int .i64 0, .slice none 0 0] 8 rfl (World.shaped_of_RefB (by kernel_rfl) (by kernel_rfl)) (by kernel_rfl) (by kernel_rfl) (by kernel_rfl) (door_met os _)) ?_
  intro W base args ds gs before hval0 hW _ _ hL _
  have hval : ∀ (j : Nat) t v, Ybad.f4.params[j]? = some t → args[j]? = some v → Value.okWide Ybad.prog W .any base t v := hval0
  have hW' := hW
  obtain ⟨p, q, hA0, hV, rfl, hfz, hnd⟩ := hW
  have hA : DataW.TrodAll enc Ybad.prog W 0 (fun _ => true) true Ybad.f4.params.toList args.toList ds p := hA0
  have hltA := hA.lt
  rw [Ybad.params4] at hA hval
  obtain ⟨v0, v1, d0, d1, p0, p1, rfl, rfl, rfl, h0, h1⟩ := trodAll_two hA
  obtain ⟨_, _, _, _, g0, _, _, _, _, _, g1, _, rfl, _⟩ := trodVars_two hV
  obtain ⟨a0, rfl, rfl, rfl, w0⟩ := open_int Ybad.underlying2 (hval 0 2 v0 rfl rfl) h0
  obtain ⟨ao, len, cap, rfl⟩ := okWide_slice Ybad.underlying22 (hval 1 22 v1 rfl rfl)
  clear hA0 hval0
  obtain ⟨sts, hst⟩ := st_of h1
  obtain ⟨l1, l2, l3, l4⟩ := of_laid hL
  refine (law_any a0 _ sts W hst l2 l3 l1 l4).mono fun e W' ⟨he, hg⟩ => ?_
  subst he
  exact ⟨_, rfl, _, _, _, [], _, _, hW', trodAll_mk1 (shut_bool Ybad.underlying4 _), trodAll_mk2 (shut_int Ybad.underlying2 w0) (Below.trod laidOut (by kernel_rfl) (of_decide_eq_true (by kernel_rfl)) h1 hg (fun x hx => hltA x (by simpa using hx))), Below.trodVars laidOut hg rowed hV, hg.frame _, fun h => by cases h⟩

theorem row_holds : Rows.LawS2477ALenSaid :=
  OpenClaim.holds_of_wide 4 Ybad.f4 rfl rfl rfl rfl rfl rfl rfl ⟨rfl, rfl, rfl, rfl, rfl⟩ rfl rfl rfl rfl rfl (by kernel_rfl) Ybad.func4 (by kernel_rfl)
    (of_decide_eq_true (by kernel_rfl)) (by unfold Func.isWrapper; first | (rw [if_pos (by decide +kernel)]; kernel_rfl) | (rw [if_neg (by decide +kernel)]; exact ⟨rfl, rfl⟩))
    (fun os started H enc _ => lifted os started H enc)
end Go.Proofs.YbulkayguDoor.lawS2477ALen
namespace Go.Proofs.YbulkayguDoor
open Go

/-- THE TIED CARD -/
theorem len_card : Rows.LawS2477ALenCardSaid :=
  Claim7.holds_tied_plain_at .later [] [.data, .data, .data, .data, .data] true (true, "647b66f44496cdb567b36369e8b0e7b277c0683a2c7cb799b2c0021caf52eacf") false
    lawS2477ALen.row_holds (fun _ h => by cases h) (by kernel_rfl) (fun _ h => by cases h) lawS2477ALen_row_tie rfl ⟨rfl, rfl⟩ (by kernel_rfl) rfl
    (fun f fn hf hfn => by
      obtain rfl : f = 4 := Option.some.inj ((show Ybad.prog.funcNamed Rows.lawS2477ALenRow.func = some 4 by kernel_rfl).symm.trans hf) |>.symm
      obtain rfl : fn = Ybad.f4 := (Option.some.inj (Ybad.func4.symm.trans hfn)).symm
      exact ⟨by kernel_rfl, fun j t ht => by
        rw [Ybad.params4] at ht
        have hm : t ∈ [2, 22] := by simpa using Array.mem_of_getElem? ht
        have hall : ([2, 22].all fun u => !Ybad.prog.wantsStandIn u) = true := by kernel_rfl
        exact (show Ybad.prog.wantsStandIn t = false by simpa using List.all_eq_true.1 hall t hm)⟩)
    (by kernel_rfl)
end Go.Proofs.YbulkayguDoor
