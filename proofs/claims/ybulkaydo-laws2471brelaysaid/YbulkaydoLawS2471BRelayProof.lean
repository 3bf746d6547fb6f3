/- The proof of 'Rows.LawS2471BRelaySaid': the kit's frame, its walk filled in. -/
import Derived.Test.YbulkaydoNew
import Derived.WalkKit
import Derived.ProofKit
import Derived.OpenShut
import Derived.ShutString
namespace Go.Proofs.Ybulkaydo.lawS2471BRelay
open Go.ChangeShapes Go.WideShapes Go.ChangeAt Go.RowKit
open Go.ChangeMaps (open_string shut_string)
set_option linter.unusedVariables false      -- a walk need not use every 'w<i>' (that an integer argument fits its kind)

theorem own : ownKnob Yba.prog.godebug = none := by kernel_rfl

/-! ### STEP 1: THE WALK: the Go text returns true. 'Grown w w'': the world has at most new blocks (Derived/RowKit3.lean). Part the cases AHEAD of 'go_enter' where a test parts the walk; take each callee by a contract of your own. -/
theorem walk (a0 : Int) (a1 : Int) (a2 : Int) (a3 : Int) (a4 : Int) (a5 : Int) (w0 : (Lit.int .u8 a0).wf = true) (w1 : (Lit.int .u8 a1).wf = true) (w2 : (Lit.int .u8 a2).wf = true) (w3 : (Lit.int .u8 a3).wf = true) (w4 : (Lit.int .u8 a4).wf = true) (w5 : (Lit.int .u8 a5).wf = true) (w : World) :
    Calls Yba.prog 4 #[.int .u8 a0, .int .u8 a1, .int .u8 a2, .int .u8 a3, .int .u8 a4, .int .u8 a5] w fun e w' => e = .returned (.bool true) ∧ Grown w w' := by
  have b0 := bounds_u8 w0
  have b1 := bounds_u8 w1
  have b2 := bounds_u8 w2
  have b3 := bounds_u8 w3
  have b4 := bounds_u8 w4
  have b5 := bounds_u8 w5
  clear w0 w1 w2 w3 w4 w5
  go_enter Yba.func4, Yba.ntmps4
  go_wp2_with (first
    | (go_at_call 7; refine (new_any (3 + a0 % 8) _ (by omega) (by omega)).mono ?_; rintro e w' ⟨rfl, kd, rfl⟩)
    | (go_at_call 8; refine (guardian_any (w.heap.size + 1) (3 + a0 % 8) (a1 % 2) _ (by omega) (by omega) (by omega) (by omega) (by simp [go_sem])).mono ?_; rintro e w' ⟨rfl, rfl⟩))
  go_loopw [19, 20] (fun i _ wr => ∃ k : Nat, k ≤ 12 ∧ (k : Int) ≤ 3 + a0 % 8 + 2 ∧ i = .int .i64 k ∧
      Keep (w.heap.size + 1) (w.heap.size + 1 + 1) (3 + a0 % 8) (a2 % 5) (a3 % 48) (a4 % 16) a5 wr ∧ Grown w wr)
    (fun i _ _ => 12 - (intOf i).toNat)
  case atStart =>
    refine ⟨0, by omega, by omega, rfl, ?_, ?_⟩
    · exact ⟨by simp, by simp, by simp [go_sem], by simp [go_sem], by simp [go_sem], by simp [go_sem], by simp [go_sem]⟩
    · exact Grown.alloc (grown_drewN (Grown.alloc (Grown.alloc (Grown.refl _) _ _) _ _) kd) _ _
  case round =>
    obtain ⟨k, hk, hk2, rfl, hkeep, hg⟩ := hrel
    by_cases hlt : (k : Int) < 3 + a0 % 8 + 2
    · by_cases he : (k : Int) = 3 + a0 % 8 + a1 % 2
      · have HE : Hid ((k : Int) = 3 + a0 % 8 + a1 % 2) := he
        have he' : ((k : Int) == 3 + a0 % 8 + a1 % 2) = true := by simpa using he
        have hn : ¬ (k : Int) < 3 + a0 % 8 := by omega
        clear he
        go_wp2_with fail
        refine (send_keep (w.heap.size + 1) (w.heap.size + 1 + 1) (3 + a0 % 8) (a2 % 5) (a3 % 48) (a4 % 16) a5 0 1 (3 + a0 % 8 + a1 % 2) k (-1) _ (by omega) (by omega) (by omega) (by omega) (by omega) (by omega) (by omega) (by omega) (by omega) (by omega) hkeep (by rw [HE.out]; exact sendp_self _ _ _ _ _ _)).mono ?_
        rintro e w' ⟨rfl, rfl⟩
        go_wp2_with fail
        refine (send_keep (w.heap.size + 1) (w.heap.size + 1 + 1) (3 + a0 % 8) (a2 % 5) (a3 % 48) (a4 % 16) a5 0 0 (3 + a0 % 8 + a1 % 2) k (-1) _ (by omega) (by omega) (by omega) (by omega) (by omega) (by omega) (by omega) (by omega) (by omega) (by omega) (hkeep.alloc _) (sendp_guard _ _ _ _ _ _ _ (by omega))).mono ?_
        rintro e w' ⟨rfl, rfl⟩
        go_wp2_with fail
        go_roundw
        case rel => exact ⟨k + 1, by omega, by omega, by go_num, (hkeep.alloc _).alloc _, (hg.alloc _ _).alloc _ _⟩
        case measure => simp [intOf]; omega
      · by_cases hn : (k : Int) < 3 + a0 % 8
        · have HE : Hid (¬ (k : Int) = 3 + a0 % 8 + a1 % 2) := he
          have he' : ((k : Int) == 3 + a0 % 8 + a1 % 2) = false := by simpa using he
          clear he
          go_wp2_with fail
          refine (send_keep (w.heap.size + 1) (w.heap.size + 1 + 1) (3 + a0 % 8) (a2 % 5) (a3 % 48) (a4 % 16) a5 0 1 (3 + a0 % 8 + a1 % 2) k (a5 - 1) _ (by omega) (by omega) (by omega) (by omega) (by omega) (by omega) (by omega) (by omega) (by omega) (by omega) hkeep (sendp_relay _ _ _ _ _ _ _ (by omega) HE.out)).mono ?_
          rintro e w' ⟨rfl, rfl⟩
          go_wp2_with fail
          refine (send_keep (w.heap.size + 1) (w.heap.size + 1 + 1) (3 + a0 % 8) (a2 % 5) (a3 % 48) (a4 % 16) a5 0 1 k (3 + a0 % 8 + a1 % 2) (-1) _ (by omega) (by omega) (by omega) (by omega) (by omega) (by omega) (by omega) (by omega) (by omega) (by omega) (hkeep.alloc _) (sendp_node _ _ _ _ _ _ _ (by omega))).mono ?_
          rintro e w' ⟨rfl, rfl⟩
          go_wp2_with fail
          refine (send_keep (w.heap.size + 1) (w.heap.size + 1 + 1) (3 + a0 % 8) (a2 % 5) (a3 % 48) (a4 % 16) a5 0 0 (3 + a0 % 8 + a1 % 2) k (-1) _ (by omega) (by omega) (by omega) (by omega) (by omega) (by omega) (by omega) (by omega) (by omega) (by omega) ((hkeep.alloc _).alloc _) (sendp_guard _ _ _ _ _ _ _ (by omega))).mono ?_
          rintro e w' ⟨rfl, rfl⟩
          go_wp2_with fail
          go_roundw
          case rel => exact ⟨k + 1, by omega, by omega, by go_num, ((hkeep.alloc _).alloc _).alloc _, ((hg.alloc _ _).alloc _ _).alloc _ _⟩
          case measure => simp [intOf]; omega
        · have HE : Hid (¬ (k : Int) = 3 + a0 % 8 + a1 % 2) := he
          have he' : ((k : Int) == 3 + a0 % 8 + a1 % 2) = false := by simpa using he
          clear he
          go_wp2_with fail
          refine (send_keep (w.heap.size + 1) (w.heap.size + 1 + 1) (3 + a0 % 8) (a2 % 5) (a3 % 48) (a4 % 16) a5 0 1 (3 + a0 % 8 + a1 % 2) k (a5 - 1) _ (by omega) (by omega) (by omega) (by omega) (by omega) (by omega) (by omega) (by omega) (by omega) (by omega) hkeep (sendp_relay _ _ _ _ _ _ _ (by omega) HE.out)).mono ?_
          rintro e w' ⟨rfl, rfl⟩
          go_wp2_with fail
          refine (send_keep (w.heap.size + 1) (w.heap.size + 1 + 1) (3 + a0 % 8) (a2 % 5) (a3 % 48) (a4 % 16) a5 0 0 (3 + a0 % 8 + a1 % 2) k (-1) _ (by omega) (by omega) (by omega) (by omega) (by omega) (by omega) (by omega) (by omega) (by omega) (by omega) (hkeep.alloc _) (sendp_guard _ _ _ _ _ _ _ (by omega))).mono ?_
          rintro e w' ⟨rfl, rfl⟩
          go_wp2_with fail
          go_roundw
          case rel => exact ⟨k + 1, by omega, by omega, by go_num, (hkeep.alloc _).alloc _, (hg.alloc _ _).alloc _ _⟩
          case measure => simp [intOf]; omega
    · obtain ⟨c1, c2, c3, c4, c5, c6, c7⟩ := hkeep
      go_wp2
      go_ret
      exact ⟨rfl, hg⟩

/-! ### THE ROW's STEP: WRITTEN OUT: LEAVE IT -/
set_option maxRecDepth 100000 in
theorem lifted (os : Os) (started : os.Started) (H : Type) (enc : TypeId × Value → H) :
    ReturnsInHanded {} Yba.checked os 4 .any (Rows.lawS2471BRelaySpec.pre6 enc Yba.prog Yba.f4 Rows.lawS2471BRelayRow.domain false) (Rows.lawS2471BRelaySpec.post enc Yba.prog Yba.f4 false true false false) := by
  refine returnsInHanded_of_change (C := Yba.checked) own started (by kernel_rfl) Yba.func4
    (ChangeSpec.witness6 (enc := enc) (C := Yba.checked) false ⟨#[], #[.int .u8 0, .int .u8 0, .int .u8 0, .int .u8 0, .int .u8 0, .int .u8 0], []⟩ 8 (by kernel_rfl) (by kernel_rfl) (by kernel_rfl) (by kernel_rfl)) ?_
  intro W base args ds gs before hval0 hW hcnd _
  have hval : ∀ (j : Nat) t v, Yba.f4.params[j]? = some t → args[j]? = some v → Value.okWide Yba.prog W .any base t v := hval0
  have hW' := hW
  obtain ⟨p, q, hA0, hV, rfl, hfz, hnd⟩ := hW
  have hA : DataW.TrodAll enc Yba.prog W 0 (fun _ => true) true Yba.f4.params.toList args.toList ds p := hA0
  rw [Yba.params4] at hA hval
  obtain ⟨v0, vs0, d0, ds0, p0, q0, hargs, rfl, rfl, h0, r0⟩ := trodAll_cons hA
  obtain ⟨v1, vs1, d1, ds1, p1, q1, rfl, rfl, rfl, h1, r1⟩ := trodAll_cons r0
  obtain ⟨v2, vs2, d2, ds2, p2, q2, rfl, rfl, rfl, h2, r2⟩ := trodAll_cons r1
  obtain ⟨v3, vs3, d3, ds3, p3, q3, rfl, rfl, rfl, h3, r3⟩ := trodAll_cons r2
  obtain ⟨v4, vs4, d4, ds4, p4, q4, rfl, rfl, rfl, h4, r4⟩ := trodAll_cons r3
  obtain ⟨v5, vs5, d5, ds5, p5, q5, rfl, rfl, rfl, h5, r5⟩ := trodAll_cons r4
  obtain ⟨rfl, rfl, rfl⟩ := trodAll_nil r5
  obtain rfl : args = #[v0, v1, v2, v3, v4, v5] := by cases args; simp_all
  obtain ⟨rfl, rfl⟩ := trodVars_none hV
  obtain ⟨a0, rfl, rfl, rfl, w0⟩ := open_int Yba.underlying5 (hval 0 5 v0 rfl rfl) h0
  obtain ⟨a1, rfl, rfl, rfl, w1⟩ := open_int Yba.underlying5 (hval 1 5 v1 rfl rfl) h1
  obtain ⟨a2, rfl, rfl, rfl, w2⟩ := open_int Yba.underlying5 (hval 2 5 v2 rfl rfl) h2
  obtain ⟨a3, rfl, rfl, rfl, w3⟩ := open_int Yba.underlying5 (hval 3 5 v3 rfl rfl) h3
  obtain ⟨a4, rfl, rfl, rfl, w4⟩ := open_int Yba.underlying5 (hval 4 5 v4 rfl rfl) h4
  obtain ⟨a5, rfl, rfl, rfl, w5⟩ := open_int Yba.underlying5 (hval 5 5 v5 rfl rfl) h5
  clear hA0 hval0
  simp only [List.append_nil] at hW'
  refine (walk a0 a1 a2 a3 a4 a5 w0 w1 w2 w3 w4 w5 W).mono fun e W' ⟨he, hg⟩ => ?_
  subst he
  exact ⟨_, rfl, post_of_same (pa := []) (pv := []) hW' (fun _ _ _ => (trodAll_cons_mk (shut_bool Yba.underlying4 _) trodAll_mk0)) (fun sp _ => (trodAll_cons_mk (shut_int Yba.underlying5 w0) (trodAll_cons_mk (shut_int Yba.underlying5 w1) (trodAll_cons_mk (shut_int Yba.underlying5 w2) (trodAll_cons_mk (shut_int Yba.underlying5 w3) (trodAll_cons_mk (shut_int Yba.underlying5 w4) (trodAll_cons_mk (shut_int Yba.underlying5 w5) trodAll_mk0))))))) (fun _ _ => rfl) rfl
    (hg.frame _) hg.2.1 (ok_one (by kernel_rfl) rfl (okWide_bool_mk Yba.underlying4 _))⟩

theorem over : Rows.lawS2471BRelayRow.holds Yba.pinned (OpenSpec.ofChange Rows.lawS2471BRelaySpec) :=
  OpenClaim.holds_of_wide 4 Yba.f4 rfl rfl rfl rfl rfl rfl rfl ⟨rfl, rfl, rfl, rfl, rfl⟩ rfl rfl rfl rfl rfl (by kernel_rfl) Yba.func4 (by kernel_rfl)
    (of_decide_eq_true (by kernel_rfl)) (by unfold Func.isWrapper; first | (rw [if_pos (by decide +kernel)]; kernel_rfl) | (rw [if_neg (by decide +kernel)]; exact ⟨rfl, rfl⟩))
    (fun os started H enc _ => lifted os started H enc)

end Go.Proofs.Ybulkaydo.lawS2471BRelay
namespace Go.Proofs.Ybulkaydo
/-- THE STATEMENT -/
theorem relay_proved : Rows.LawS2471BRelaySaid :=
  lawS2471BRelay.over
end Go.Proofs.Ybulkaydo
