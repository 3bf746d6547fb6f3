import Derived.Test.YbulkayeqNode
namespace Go.Proofs.Ybulkayeq
open Go.RowKit

/-- the first k nodes hold what was written into them -/
def Held (a2 : Int) (k : Nat) (L : List Value) : Prop :=
  L.length = k * 7 ∧ ∀ i, i < k → L[i * 7]? = some (.int .u64 (IntKind.u64.wrap (a2 + i))) ∧ L[i * 7 + 3]? = some (.int .i32 i)

theorem Held.snoc {a2 : Int} {k : Nat} {L : List Value} (h : Held a2 k L) : Held a2 (k + 1) (L ++ nodeOf (.int .u64 (IntKind.u64.wrap (a2 + k))) (.int .i32 k)) := by
  obtain ⟨h1, h2⟩ := h
  refine ⟨by simp [nodeOf]; omega, ?_⟩
  intro i hi
  by_cases hik : i < k
  · rw [List.getElem?_append_left (by omega), List.getElem?_append_left (by omega)]
    exact h2 i hik
  · obtain rfl : i = k := by omega
    rw [List.getElem?_append_right (by omega), List.getElem?_append_right (by omega), h1]
    simp [nodeOf, show i * 7 + 3 - i * 7 = 3 from by omega]

theorem At.zero {T c : Nat} {L : List Value} {O n capO g ln cap : Nat} {w : World} (h : At T c (L ++ Z7) O n capO g ln cap w) (hL : L.length = c * 7) :
    w.cell? ⟨g, c % 1024 * 7, none⟩ = some (.int .u64 0) ∧ w.cell? ⟨g, c % 1024 * 7 + 1, none⟩ = some (.int .u64 0) ∧ w.cell? ⟨g, c % 1024 * 7 + 2, none⟩ = some (.int .u64 0) ∧
    w.cell? ⟨g, c % 1024 * 7 + 3, none⟩ = some (.int .i32 0) ∧ w.cell? ⟨g, c % 1024 * 7 + 4, none⟩ = some (.int .i32 0) ∧ w.cell? ⟨g, c % 1024 * 7 + 5, none⟩ = some (.int .i32 0) ∧ w.cell? ⟨g, c % 1024 * 7 + 6, none⟩ = some (.int .i32 0) := by
  have e : ∀ q, q < 7 → w.cell? ⟨g, c % 1024 * 7 + q, none⟩ = Z7[q]? := by
    intro q hq
    rw [h.cells q hq, List.getElem?_append_right (by omega)]
    congr 1; omega
  exact ⟨e 0 (by omega), e 1 (by omega), e 2 (by omega), e 3 (by omega), e 4 (by omega), e 5 (by omega), e 6 (by omega)⟩

set_option maxRecDepth 100000 in
set_option maxHeartbeats 1000000 in
theorem keeps_walk (a0 : Int) (a1 : Int) (a2 : Int) (b0 : 0 ≤ a0 ∧ a0 ≤ 255) (b1 : 0 ≤ a1 ∧ a1 ≤ 65535) (w : World) :
    Calls Yba.prog 6 #[.int .u8 a0, .int .u16 a1, .int .u64 a2] w fun e w' => e = .returned (.bool true) ∧ Below w.heap.size w w' := by
  obtain ⟨N, hN⟩ : ∃ N : Nat, a0 % 3 * 1024 + a1 % 1100 = (N : Int) := ⟨(a0 % 3 * 1024 + a1 % 1100).toNat, by omega⟩
  have hN2 : N ≤ 3147 := by omega
  go_enter Yba.func6, Yba.ntmps6
  go_wp2_with fail
  go_loopw [9, 10, 11] (fun i _ _ wr => ∃ k : Nat, k ≤ N ∧ i = .int .i64 k ∧ (∃ L, Held a2 k L ∧ Inv w.heap.size k L wr) ∧ Below w.heap.size w wr ∧ w.heap.size < wr.heap.size)
    (fun i _ _ _ => N - (intOf i).toNat)
  case atStart => exact ⟨0, by omega, rfl, ⟨[], ⟨rfl, fun i hi => by omega⟩, .inl ⟨rfl, rfl, heap_alloc_new _ _⟩⟩, (Below.refl _ _).alloc (Nat.le_refl _) _, by simp⟩
  case round =>
    obtain ⟨k, hk, rfl, ⟨L, hheld, hinv⟩, hbel, hsz⟩ := hrel
    by_cases hlt : k < N
    · go_wp2_with fail
      refine (grow_any w.heap.size k L _ (by omega) hsz hinv).mono ?_
      rintro e w1 ⟨rfl, hinv1, hb1⟩
      obtain ⟨O, n, capO, g, ln, cap, hat, hln⟩ := hinv1.at k (by omega)
      go_wp2_with fail
      refine (node_any w.heap.size k _ O n capO g ln cap _ (by omega) hln hat).mono ?_
      rintro e w2 ⟨rfl, hw2⟩
      subst hw2
      obtain ⟨c0, c1, c2, c3, c4, c5, c6⟩ := hat.zero hheld.1
      have f0 := hat.free (k % 1024 * 7)
      have f3 := hat.free (k % 1024 * 7 + 3)
      obtain ⟨hput, hTg⟩ := hinv1.put hheld.1 hat (.int .u64 (IntKind.u64.wrap (a2 + k))) (.int .i32 k)
      go_wp2_with fail
      go_roundw
      case rel => exact ⟨k + 1, by omega, by go_num, ⟨_, hheld.snoc, hput⟩, ((hbel.trans hb1).setCell hTg _).setCell hTg _, by have := hb1.size; simp; omega⟩
      case measure => simp [intOf]; omega
    · obtain rfl : k = N := by omega
      clear hk hlt
      go_wp2_with fail
      go_loop [12, 13] (fun j _ => ∃ q : Nat, q ≤ k ∧ j = .int .i64 q) (fun j _ => k - (intOf j).toNat)
      case atStart => exact ⟨0, by omega, rfl⟩
      case round =>
        obtain ⟨q, hq, rfl⟩ := hrel
        by_cases hlt : q < k
        · obtain ⟨O, n, capO, g, ln, cap, hat, hln⟩ := hinv.at q hlt
          have c0 := (hat.cells 0 (by omega)).trans (hheld.2 q hlt).1
          have c3 := (hat.cells 3 (by omega)).trans (hheld.2 q hlt).2
          simp only [Nat.add_zero] at c0
          go_wp2_with fail
          refine (node_any w.heap.size q _ O n capO g ln cap _ (by omega) hln hat).mono ?_
          rintro e w2 ⟨rfl, hw2⟩
          subst hw2
          go_wp2
          go_round
          case rel => exact ⟨q + 1, by omega, by go_num⟩
          case measure => simp [intOf]; omega
        · go_wp2
          go_ret
          exact ⟨rfl, hbel⟩
end Go.Proofs.Ybulkayeq
