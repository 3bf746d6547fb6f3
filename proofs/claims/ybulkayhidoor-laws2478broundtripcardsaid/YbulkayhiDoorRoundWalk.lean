import Derived.Test.YbulkayhiDoorParse
namespace Go.Proofs.YbulkayhiDoor
open Go Go.RowKit

/-- the place's text: where its one space lies, and its two parts -/
theorem place_parts {S : ByteArray} {a b : Int} (h : S.data.toList = placeL a b) :
    S.size = (degL a).length + 1 + (degL b).length ∧
    (∀ i (hi : i < S.size), i ≠ (degL a).length → (S[i]'hi).toNat ≠ 32) ∧
    (∀ (hi : (degL a).length < S.size), (S[(degL a).length]'hi).toNat = 32) ∧
    (S.extract 0 (degL a).length).data.toList = degL a ∧
    (S.extract ((degL a).length + 1) S.size).data.toList = degL b := by
  have hsz : S.size = (degL a).length + 1 + (degL b).length := by
    rw [size_of h]; simp [placeL]; omega
  have hat : ∀ i (hi : i < S.size), (placeL a b)[i]? = some (S[i]'hi) := by
    intro i hi
    rw [← h]
    have : i < S.data.toList.length := by simpa using hi
    rw [List.getElem?_eq_getElem this]
    rfl
  refine ⟨hsz, ?_, ?_, ?_, ?_⟩
  · intro i hi hne
    have e := hat i hi
    unfold placeL at e
    by_cases hlt : i < (degL a).length
    · rw [List.getElem?_append_left hlt] at e
      exact degL_no_space a i _ e
    · rw [List.getElem?_append_right (by omega), show i - (degL a).length = (i - (degL a).length - 1) + 1 from by omega, List.getElem?_cons_succ] at e
      exact degL_no_space b _ _ e
  · intro hi
    have e := hat _ hi
    unfold placeL at e
    rw [List.getElem?_append_right (by omega), Nat.sub_self, List.getElem?_cons_zero] at e
    have e' := Option.some.inj e
    rw [← e']; rfl
  · rw [Lib.extract_data, h]
    simp [placeL]
  · rw [Lib.extract_to_end, h]
    simp [placeL]

set_option maxRecDepth 100000 in
set_option maxHeartbeats 1000000 in
theorem round_walk (a b : Int) (w : World) (a0 : -2147483648 ≤ a) (a1 : a ≤ 2147483647) (b0 : -2147483648 ≤ b) (b1 : b ≤ 2147483647) (htab : Lib.TabIs Ybad.prog w "internal/strconv.uint64pow10" .u64 Lib.pow10Tab) :
    Calls Ybad.prog 4 #[.int .i32 a, .int .i32 b] w fun e w' => e = .returned (.bool true) ∧ Below w.heap.size w w' := by
  have la := degL_length a (by omega)
  have lb := degL_length b (by omega)
  go_enter Ybad.func4, Ybad.ntmps4
  go_wp2_with fail
  refine (string_any a b w a0 a1 b0 b1 htab).mono ?_
  rintro e w1 ⟨rfl, hnx⟩
  clear htab
  obtain ⟨S, hS⟩ : ∃ S : ByteArray, S = ⟨(placeL a b).toArray⟩ := ⟨_, rfl⟩
  have hSL : S.data.toList = placeL a b := by rw [hS]
  rw [← hS]
  obtain ⟨p1, p2, p3, p4, p5⟩ := place_parts hSL
  obtain ⟨la', hla⟩ : ∃ l, (degL a).length = l := ⟨_, rfl⟩
  obtain ⟨lb', hlb⟩ : ∃ l, (degL b).length = l := ⟨_, rfl⟩
  rw [hla] at p1 p2 p3 p4 p5 la
  rw [hlb] at p1 lb
  have H2 := Lib.hid p2
  have H3 := Lib.hid p3
  have H4 := Lib.hid p4
  have H5 := Lib.hid p5
  have q1 : la' + 1 + lb' ≤ S.size := by omega
  have q2 : S.size ≤ la' + 1 + lb' := by omega
  clear p1 p2 p3 p4 p5 hla hlb hSL hS
  go_wp2_with fail
  go_loop [6, 7] (fun s6 s7 => ∃ (i : Nat) (k : Int), i ≤ S.size ∧ s7 = .int .i64 i ∧ s6 = .int .i64 k ∧ ((i ≤ la' ∧ k = -1) ∨ (la' < i ∧ k = la')))
    (fun _ s7 => S.size - (intOf s7).toNat)
  case atStart => exact ⟨0, -1, by omega, rfl, rfl, .inl ⟨by omega, rfl⟩⟩
  case round =>
    obtain ⟨i, k, hi, rfl, rfl, hk⟩ := hrel
    by_cases hlt : i < S.size
    · obtain ⟨c, hc⟩ : ∃ c : Nat, (S[i]'hlt).toNat = c := ⟨_, rfl⟩
      by_cases hia : i = la'
      · have hc2 : c = 32 := by subst hia; rw [← hc]; exact H3.out hlt
        have hk1 : k < 0 := by omega
        have HK : Hid (i = la') := hia
        subst hc2
        clear hia hk
        go_wp2_with fail
        go_round
        case rel => exact ⟨i + 1, i, by omega, by go_num, rfl, .inr ⟨by have := HK.out; omega, by have := HK.out; omega⟩⟩
        case measure => simp [intOf]; omega
      · have hc2 : ((c : Int) == 32) = false := by
          have := H2.out i hlt hia
          rw [hc] at this
          simp; omega
        have HK := Lib.hid hk
        have HI := Lib.hid hia
        clear hk hia
        go_wp2_with fail
        go_round
        case rel => exact ⟨i + 1, k, by omega, by go_num, rfl, by have := HK.out; have := HI.out; omega⟩
        case measure => simp [intOf]; omega
    · obtain rfl : k = (la' : Int) := by omega
      obtain rfl : i = S.size := by omega
      clear hk hlt hi
      go_wp2_with fail
      refine (parse_any _ a _ H4.out a0 a1).mono ?_
      rintro e w2 ⟨rfl, hw2⟩
      subst hw2
      go_wp2_with fail
      refine (parse_any _ b _ H5.out b0 b1).mono ?_
      rintro e w3 ⟨rfl, hw3⟩
      subst hw3
      go_wp2
      go_ret
      exact ⟨rfl, hnx⟩
end Go.Proofs.YbulkayhiDoor
