import Derived.Test.YbulkaydoRows
import Derived.WalkKit
namespace Go.Proofs.Ybulkaydo
open Go.RowKit

theorem ret_int {k : IntKind} {a b : Int} (h : a = b) : Ending.returned (.int k a) = .returned (.int k b) := by rw [h]

/-- what 'output' answers -/
def outp (n st cnt pos i : Int) : Int :=
  if st = 1 then (if cnt = 2 * n + i then 1 + i else -1)
  else if st = 2 then (if cnt = n + i then 1 + i else -1)
  else if st = 3 then (if pos = i then 1 + n + i else -1)
  else -1

/-- what 'Send' answers -/
def sendp (n st cnt pos rel round i t : Int) : Int :=
  if round = 0 ∧ i < n ∧ n ≤ t then outp n st cnt pos i
  else if round = 1 ∧ n ≤ i ∧ t ≠ i then rel - 1
  else -1

set_option maxHeartbeats 400000 in
theorem output_any (M S : Nat) (n st cnt pos i : Int) (w : World) (hn0 : 3 ≤ n) (hn1 : n ≤ 10) (hi0 : -1 ≤ i) (hi1 : i ≤ 30)
    (hc0 : 0 ≤ cnt) (hc1 : cnt ≤ 255) (hp0 : 0 ≤ pos) (hp1 : pos ≤ 255)
    (hM : w.cell? ⟨M, 0, none⟩ = some (.int .i64 n)) (hS0 : w.cell? ⟨S, 0, none⟩ = some (.int .u8 st))
    (hS1 : w.cell? ⟨S, 1, none⟩ = some (.int .u8 cnt)) (hS2 : w.cell? ⟨S, 2, none⟩ = some (.int .u8 pos)) :
    Calls Yba.prog 9 #[.pointer (some ⟨M, 0, none⟩), .slice (some ⟨S, 0, none⟩) 4 4, .int .i64 i] w fun e w' =>
      e = .returned (.int .i64 (outp n st cnt pos i)) ∧ w' = w := by
  go_enter Yba.func9, Yba.ntmps9
  go_wp2
  all_goals go_ret
  all_goals refine ⟨ret_int ?_, rfl⟩
  all_goals simp only [beq_iff_eq, beq_eq_false_iff_ne] at *
  all_goals simp [outp, *]

set_option maxHeartbeats 400000 in
theorem expect_any (n st cnt pos rel round i t : Int) (w : World) (hn0 : 3 ≤ n) (hn1 : n ≤ 10) (hi0 : -1 ≤ i) (hi1 : i ≤ 30)
    (hc0 : 0 ≤ cnt) (hc1 : cnt ≤ 255) (hp0 : 0 ≤ pos) (hp1 : pos ≤ 255) (hr0 : 0 ≤ rel) (hr1 : rel ≤ 255) :
    Calls Yba.prog 6 #[.int .i64 n, .int .u8 st, .int .u8 cnt, .int .u8 pos, .int .u8 rel, .int .i64 round, .int .i64 i, .int .i64 t] w fun e w' =>
      e = .returned (.int .i64 (sendp n st cnt pos rel round i t)) ∧ w' = w := by
  go_enter Yba.func6, Yba.ntmps6
  go_wp2
  all_goals go_ret
  all_goals refine ⟨ret_int ?_, rfl⟩
  all_goals (try simp only [beq_iff_eq, beq_eq_false_iff_ne, bne_iff_ne, bne_eq_false_iff_eq] at *)
  all_goals simp [sendp, outp, *]
  all_goals (intros; exfalso; omega)

set_option maxHeartbeats 400000 in
theorem send_any (M S : Nat) (n st cnt pos rel z round i t : Int) (w : World) (hn0 : 3 ≤ n) (hn1 : n ≤ 10) (hi0 : -1 ≤ i) (hi1 : i ≤ 30)
    (hc0 : 0 ≤ cnt) (hc1 : cnt ≤ 255) (hp0 : 0 ≤ pos) (hp1 : pos ≤ 255) (hr0 : 0 ≤ rel) (hr1 : rel ≤ 255)
    (hMs : M < w.heap.size) (hSs : S < w.heap.size)
    (hM : w.cell? ⟨M, 0, none⟩ = some (.int .i64 n)) (hS0 : w.cell? ⟨S, 0, none⟩ = some (.int .u8 st))
    (hS1 : w.cell? ⟨S, 1, none⟩ = some (.int .u8 cnt)) (hS2 : w.cell? ⟨S, 2, none⟩ = some (.int .u8 pos))
    (hS3 : w.cell? ⟨S, 3, none⟩ = some (.int .u8 rel)) :
    Calls Yba.prog 5 #[.pointer (some ⟨M, 0, none⟩), .slice (some ⟨S, 0, none⟩) 4 4, .agg #[.int .i64 z, .int .i64 round], .int .i64 i, .int .i64 t] w fun e w' =>
      e = .returned (.int .i64 (sendp n st cnt pos rel round i t)) ∧ w' = w.alloc (.cells #[.int .i64 z, .int .i64 round] 29) := by
  go_enter Yba.func5, Yba.ntmps5
  go_wp2_with (go_at_call 9; refine (output_any M S n st cnt pos i _ hn0 hn1 hi0 hi1 hc0 hc1 hp0 hp1 ((World.cell?_alloc_past _ _ _ hMs).trans hM) ((World.cell?_alloc_past _ _ _ hSs).trans hS0) ((World.cell?_alloc_past _ _ _ hSs).trans hS1) ((World.cell?_alloc_past _ _ _ hSs).trans hS2)).mono ?_; rintro e w' ⟨rfl, rfl⟩)
  all_goals go_ret
  all_goals refine ⟨ret_int ?_, by simp [*]⟩
  all_goals (try simp only [bne_iff_ne, bne_eq_false_iff_eq] at *)
  all_goals simp [sendp, *]
  all_goals (intros; exfalso; omega)
end Go.Proofs.Ybulkaydo
