import Derived.Test.YbulkayhiDoorDeg
import Derived.WalkSpells
namespace Go.Proofs.YbulkayhiDoor
open Go Go.RowKit

/-- a byte of a string whose bytes are L -/
theorem byte_of {s : ByteArray} {L : List UInt8} (h : s.data.toList = L) (k : Nat) (b : UInt8) (hb : L[k]? = some b) : ∃ hk : k < s.size, (s[k]'hk).toNat = b.toNat := by
  subst h
  obtain ⟨hk, e⟩ := List.getElem?_eq_some_iff.1 hb
  have hk' : k < s.size := by simpa using hk
  refine ⟨hk', ?_⟩
  rw [← e]
  rfl

theorem size_of {s : ByteArray} {L : List UInt8} (h : s.data.toList = L) : s.size = L.length := by
  subst h
  exact Array.length_toList.symm

/-- the digit at place j from the left of W's numeral -/
theorem digits_at (W j : Nat) (h : j < Lib.nDigits W) : (Lib.decDigits W)[j]? = some (Lib.dg W (Lib.nDigits W - 1 - j)) := by
  rw [Lib.decDigits_eq, List.getElem?_map, List.getElem?_range h]
  rfl

theorem frac_at (F i : Nat) (h : i < 7) : (frac7 F)[i]? = some (Lib.dg F (6 - i)) := by
  rcases i with _ | _ | _ | _ | _ | _ | _ | i
  all_goals first | rfl | omega

theorem horner (X m : Nat) : X / 10 ^ (m + 1) * 10 + X / 10 ^ m % 10 = X / 10 ^ m := by
  rw [Nat.pow_succ, ← Nat.div_div_eq_div_mul]
  omega

/-- what the walk is told of a coordinate's text -/
structure DegS (s : ByteArray) (v : Int) (σ nd W F : Nat) : Prop where
  size : s.size = σ + nd + 8
  sign : (v < 0 ∧ σ = 1 ∧ (∃ h : 0 < s.size, (s[0]'h).toNat = 45)) ∨ (0 ≤ v ∧ σ = 0)
  nd1 : 1 ≤ nd
  nd3 : nd ≤ 3
  val : v.natAbs = W * 10000000 + F
  hW : W ≤ 214
  hF : F < 10000000
  small : W / 10 ^ nd = 0
  whole : ∀ j, j < nd → ∃ h : σ + j < s.size, (s[σ + j]'h).toNat = 48 + W / 10 ^ (nd - 1 - j) % 10
  point : ∃ h : σ + nd < s.size, (s[σ + nd]'h).toNat = 46
  frac : ∀ i, i < 7 → ∃ h : σ + nd + 1 + i < s.size, (s[σ + nd + 1 + i]'h).toNat = 48 + F / 10 ^ (6 - i) % 10

theorem div_nDigits (W : Nat) (h : W < 1000) : W / 10 ^ Lib.nDigits W = 0 := by
  by_cases h1 : W < 10
  · rw [Lib.nDigits_small h1]; omega
  · rw [Lib.nDigits_big h1]
    by_cases h2 : W / 10 < 10
    · rw [Lib.nDigits_small h2]; simp only [Nat.reduceAdd, Nat.reducePow]; omega
    · rw [Lib.nDigits_big h2, Lib.nDigits_small (by omega)]; simp only [Nat.reduceAdd, Nat.reducePow]; omega

theorem degS_of {s : ByteArray} {v : Int} (h : s.data.toList = degL v) (h0 : -2147483648 ≤ v) (h1 : v ≤ 2147483647) :
    DegS s v (sgn v).length (Lib.nDigits (v.natAbs / 10000000)) (v.natAbs / 10000000) (v.natAbs % 10000000) := by
  have hW : v.natAbs / 10000000 ≤ 214 := by omega
  have n3 := nDigits_le3 (v.natAbs / 10000000) (by omega)
  have dl := Lib.decDigits_length (v.natAbs / 10000000)
  have e : degL v = sgn v ++ (Lib.decDigits (v.natAbs / 10000000) ++ 46 :: frac7 (v.natAbs % 10000000)) := by unfold degL sgn; simp
  rw [e] at h
  refine ⟨?_, ?_, n3.1, n3.2, by omega, hW, by omega, div_nDigits _ (by omega), ?_, ?_, ?_⟩
  · rw [size_of h]; simp [frac7, dl]; omega
  · by_cases hv : v < 0
    · refine .inl ⟨hv, by rw [sgn_neg hv]; rfl, byte_of h 0 45 (by rw [sgn_neg hv]; rfl)⟩
    · exact .inr ⟨by omega, by rw [sgn_pos (by omega)]; rfl⟩
  · intro j hj
    rw [← dg_toNat]
    refine byte_of h _ _ ?_
    rw [List.getElem?_append_right (by omega), List.getElem?_append_left (by omega), show (sgn v).length + j - (sgn v).length = j from by omega]
    exact digits_at _ _ hj
  · refine byte_of h _ 46 ?_
    rw [List.getElem?_append_right (by omega), List.getElem?_append_right (by omega), show (sgn v).length + Lib.nDigits (v.natAbs / 10000000) - (sgn v).length - (Lib.decDigits (v.natAbs / 10000000)).length = 0 from by omega]
    rfl
  · intro i hi
    rw [← dg_toNat]
    refine byte_of h _ _ ?_
    rw [List.getElem?_append_right (by omega), List.getElem?_append_right (by omega), show (sgn v).length + Lib.nDigits (v.natAbs / 10000000) + 1 + i - (sgn v).length - (Lib.decDigits (v.natAbs / 10000000)).length = i + 1 from by omega, List.getElem?_cons_succ]
    exact frac_at _ _ hi

theorem ret_pair {k : IntKind} {a b : Int} {c : Value} (h : a = b) : Ending.returned (.tuple #[.int k a, c]) = .returned (.tuple #[.int k b, c]) := by rw [h]

set_option maxRecDepth 100000 in
set_option maxHeartbeats 1000000 in
theorem parse_core (s : ByteArray) (v : Int) (σ nd W F : Nat) (w : World) (h : DegS s v σ nd W F) (hmax : s.size ≤ 100) :
    Calls Ybad.prog 7 #[.string s] w fun e w' => e = .returned (.tuple #[.int .i64 v, .bool true]) ∧ w' = w := by
  have hsz := h.size
  have nd1 := h.nd1
  have nd3 := h.nd3
  have hσ : σ ≤ 1 := by rcases h.sign with ⟨_, e, _⟩ | ⟨_, e⟩ <;> omega
  have hW := h.hW
  have hF := h.hF
  have HSZ : Hid (s.size = σ + nd + 8) := hsz
  have hsz1 : σ + nd + 8 ≤ s.size := by omega
  have hsz2 : s.size ≤ σ + nd + 8 := by omega
  have hs0 : 0 < s.size := by omega
  clear hsz
  go_enter Ybad.func7, Ybad.ntmps7
  go_upto_if 18 with fail
  go_cut [4, 5] (fun s4 s5 wc => w = wc ∧ ∃ ng : Bool, s4 = .bool ng ∧ s5 = .int .i64 σ ∧ Hid (ng = decide (v < 0)))
  case first =>
    rcases h.sign with ⟨hv, hσ1, hk, hb⟩ | ⟨hv, hσ0⟩
    · have hc : ((s[0]'hs0).toNat : Int) = 45 := by omega
      have HS1 : Hid (σ = 1) := hσ1
      clear hb hσ1
      go_wp2_with fail
      go_meet
      case rel => exact ⟨rfl, true, rfl, by rw [HS1.out]; rfl, by simp [Hid, hv]⟩
    · obtain ⟨hk, hb⟩ := h.whole 0 (by omega)
      have hc : ¬ ((s[0]'hs0).toNat : Int) = 45 := by
        have e : s[σ + 0]'hk = s[0]'hs0 := by congr 1
        rw [e] at hb
        omega
      have hc' : (((s[0]'hs0).toNat : Int) == 45) = false := by simpa using hc
      have HS0 : Hid (σ = 0) := hσ0
      clear hb hk hσ0 hc
      go_wp2_with fail
      go_meet
      case rel => exact ⟨rfl, false, rfl, by rw [HS0.out]; rfl, by simpa [Hid] using hv⟩
  case rest =>
    obtain ⟨rfl, ng, rfl, rfl, HNG⟩ := hcut
    go_wp2_with fail
    go_loop [5, 6, 7] (fun s5 s6 s7 => ∃ j X : Nat, j ≤ nd ∧ X ≤ 214 ∧ s5 = .int .i64 (σ + j : Nat) ∧ s6 = .int .i64 X ∧ s7 = .int .i64 j ∧ Hid (X = W / 10 ^ (nd - j)))
      (fun _ _ s7 => nd - (intOf s7).toNat)
    case atStart => exact ⟨0, 0, by omega, by omega, rfl, rfl, rfl, h.small.symm⟩
    case round =>
      obtain ⟨j, X, hj, hX, rfl, rfl, rfl, HX⟩ := hrel
      by_cases hlt : j < nd
      · obtain ⟨hk, hb⟩ := h.whole j hlt
        obtain ⟨c, hc⟩ : ∃ c : Nat, (s[σ + j]'hk).toNat = c := ⟨_, rfl⟩
        rw [hc] at hb
        have hc1 : 48 ≤ c := by omega
        have hc2 : c ≤ 57 := by omega
        have HB : Hid (c = 48 + W / 10 ^ (nd - 1 - j) % 10) := hb
        have hX2 : X ≤ 21 := by
          have e := horner W (nd - 1 - j)
          rw [show nd - 1 - j + 1 = nd - j from by omega, ← HX.out] at e
          have : W / 10 ^ (nd - 1 - j) ≤ W := Nat.div_le_self _ _
          omega
        have hX3 : X * 10 + (c - 48) ≤ 214 := by
          have e := horner W (nd - 1 - j)
          rw [show nd - 1 - j + 1 = nd - j from by omega, ← HX.out] at e
          have : W / 10 ^ (nd - 1 - j) ≤ W := Nat.div_le_self _ _
          omega
        clear hb
        go_wp2_with fail
        go_round
        case rel =>
          refine ⟨j + 1, X * 10 + (c - 48), by omega, hX3, by go_num, ?_, by go_num, ?_⟩
          · exact congrArg _ (by omega)
          · have e := horner W (nd - 1 - j)
            rw [show nd - 1 - j + 1 = nd - j from by omega, ← HX.out] at e
            show X * 10 + (c - 48) = W / 10 ^ (nd - (j + 1))
            rw [show nd - (j + 1) = nd - 1 - j from by omega]
            have := HB.out
            omega
        case measure => simp [intOf]; omega
      · obtain rfl : j = nd := by omega
        obtain ⟨hk, hb⟩ := h.point
        have hXW : Hid (X = W) := by
          have := HX.out
          rw [Nat.sub_self] at this
          simpa [Hid] using this
        have hp : ((s[σ + j]'hk).toNat : Int) = 46 := by omega
        have h7 : ((s.size : Int) - ((σ : Int) + (j : Int) + 1) != 7) = false := by simp; omega
        have hj0 : ((j : Int) == 0) = false := by simp; omega
        clear hb HX hlt
        go_wp2_with fail
        clear h7 hp hj0
        go_loop [5, 8, 9] (fun s5 s8 _ => ∃ i X2 : Nat, i ≤ 7 ∧ X2 ≤ 9999999 ∧ s5 = .int .i64 (σ + j + 1 + i : Nat) ∧ s8 = .int .i64 X2 ∧ Hid (X2 = F / 10 ^ (7 - i)))
          (fun s5 _ _ => s.size - (intOf s5).toNat)
        case atStart => exact ⟨0, 0, by omega, by omega, by go_num, rfl, by show 0 = F / 10000000; omega⟩
        case round =>
          obtain ⟨i, X2, hi7, hX2, rfl, rfl, HX2⟩ := hrel
          by_cases hlt : i < 7
          · obtain ⟨hk2, hb⟩ := h.frac i hlt
            obtain ⟨c, hc⟩ : ∃ c : Nat, (s[σ + j + 1 + i]'hk2).toNat = c := ⟨_, rfl⟩
            rw [hc] at hb
            have hc1 : 48 ≤ c := by omega
            have hc2 : c ≤ 57 := by omega
            have HB : Hid (c = 48 + F / 10 ^ (6 - i) % 10) := hb
            have e := horner F (6 - i)
            rw [show 6 - i + 1 = 7 - i from by omega, ← HX2.out] at e
            have hF2 : F / 10 ^ (6 - i) ≤ F := Nat.div_le_self _ _
            have hX3 : X2 * 10 + (c - 48) ≤ 9999999 := by omega
            have HE : Hid (X2 * 10 + (c - 48) = F / 10 ^ (7 - (i + 1))) := by
              show X2 * 10 + (c - 48) = F / 10 ^ (7 - (i + 1))
              rw [show 7 - (i + 1) = 6 - i from by omega]
              omega
            clear hb e hF2
            go_wp2_with fail
            go_round
            case rel => exact ⟨i + 1, X2 * 10 + (c - 48), by omega, hX3, by go_num, congrArg _ (by omega), HE⟩
            case measure => simp [intOf]; omega
          · obtain rfl : i = 7 := by omega
            have HX4 : Hid (X2 = F) := by
              have := HX2.out
              simpa [Hid] using this
            clear HX2 hlt
            have hval := h.val
            go_wp2_with fail
            all_goals go_ret2
            · have hn : ng = true := by assumption
              have h1 := HNG.out
              rw [hn] at h1
              have h2 : v < 0 := by simpa using h1
              exact ⟨ret_pair (by have := hXW.out; have := HX4.out; omega), rfl⟩
            · have hn : ng = false := by assumption
              have h1 := HNG.out
              rw [hn] at h1
              have h2 : 0 ≤ v := by simpa using h1
              exact ⟨ret_pair (by have := hXW.out; have := HX4.out; omega), rfl⟩

theorem parse_any (s : ByteArray) (v : Int) (w : World) (h : s.data.toList = degL v) (h0 : -2147483648 ≤ v) (h1 : v ≤ 2147483647) :
    Calls Ybad.prog 7 #[.string s] w fun e w' => e = .returned (.tuple #[.int .i64 v, .bool true]) ∧ w' = w :=
  parse_core s v _ _ _ _ w (degS_of h h0 h1) (by rw [size_of h]; have := degL_length v (by omega); omega)

/-- no byte of a coordinate's text is a space -/
theorem degL_no_space (v : Int) (k : Nat) (b : UInt8) (h : (degL v)[k]? = some b) : b.toNat ≠ 32 := by
  have hm := List.mem_of_getElem? h
  have hdg : ∀ u j, (Lib.dg u j).toNat ≠ 32 := by intro u j; rw [dg_toNat]; omega
  unfold degL at hm
  simp only [List.mem_append, List.mem_cons] at hm
  rcases hm with (hm | hm) | hm | hm
  · split at hm
    · simp at hm; subst hm; decide
    · simp at hm
  · rw [Lib.decDigits_eq] at hm
    obtain ⟨t, _, rfl⟩ := List.mem_map.1 hm
    exact hdg _ _
  · subst hm; decide
  · simp only [frac7, List.mem_cons, List.not_mem_nil, or_false] at hm
    rcases hm with rfl | rfl | rfl | rfl | rfl | rfl | rfl <;> exact hdg _ _
end Go.Proofs.YbulkayhiDoor
