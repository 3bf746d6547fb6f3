import Derived.Test.YbulkaydoSend
import Derived.Deep.QuietTactic
import Derived.BigQuiet
namespace Go.Proofs.Ybulkaydo
open Go.RowKit

set_option maxHeartbeats 400000 in
theorem new_any (n : Int) (w : World) (hn0 : 3 ≤ n) (hn1 : n ≤ 10) :
    Calls Yba.prog 7 #[.agg #[.int .i64 n, .int .i64 1, .int .i64 0, .bool false]] w fun e w' =>
      e = .returned (.tuple #[.pointer (some ⟨w.heap.size + 1, 0, none⟩), .nilIface]) ∧
      ∃ k, w' = ((w.alloc (.cells #[.int .i64 n, .int .i64 1, .int .i64 0, .bool false] 37)).alloc (.cells #[.int .i64 n, .int .i64 n, .int .i64 0, .bool true] 25)).drewN k := by
  have hq : 1 ≤ 256 / n := by
    have : n ≤ 256 := by omega
    exact (Int.le_ediv_iff_mul_le (by omega)).2 (by omega)
  have hq2 : 256 / n ≤ 256 := by
    exact Int.ediv_le_self _ (by omega)
  go_enter Yba.func7, Yba.ntmps7
  go_wp2_with fail
  go_quiet (fail)
  go_wp2
  go_ret2
  exact ⟨rfl, _, rfl⟩

set_option maxHeartbeats 400000 in
theorem guardian_any (M : Nat) (n c : Int) (w : World) (hn0 : 3 ≤ n) (hn1 : n ≤ 10) (hc0 : 0 ≤ c) (hc1 : c ≤ 1)
    (hM : w.cell? ⟨M, 0, none⟩ = some (.int .i64 n)) :
    Calls Yba.prog 8 #[.pointer (some ⟨M, 0, none⟩), .int .i64 c] w fun e w' => e = .returned (.int .i64 (n + c)) ∧ w' = w := by
  go_enter Yba.func8, Yba.ntmps8
  go_wp2
  go_ret
  exact ⟨rfl, rfl⟩

theorem grown_drewN {W w' : World} (h : Grown W w') (n : Nat) : Grown W (w'.drewN n) := h

theorem send_val (M S : Nat) (n st cnt pos rel z round i t v : Int) (w : World) (hn0 : 3 ≤ n) (hn1 : n ≤ 10) (hi0 : -1 ≤ i) (hi1 : i ≤ 30)
    (hc0 : 0 ≤ cnt) (hc1 : cnt ≤ 255) (hp0 : 0 ≤ pos) (hp1 : pos ≤ 255) (hr0 : 0 ≤ rel) (hr1 : rel ≤ 255)
    (hMs : M < w.heap.size) (hSs : S < w.heap.size)
    (hM : w.cell? ⟨M, 0, none⟩ = some (.int .i64 n)) (hS0 : w.cell? ⟨S, 0, none⟩ = some (.int .u8 st))
    (hS1 : w.cell? ⟨S, 1, none⟩ = some (.int .u8 cnt)) (hS2 : w.cell? ⟨S, 2, none⟩ = some (.int .u8 pos))
    (hS3 : w.cell? ⟨S, 3, none⟩ = some (.int .u8 rel)) (hv : sendp n st cnt pos rel round i t = v) :
    Calls Yba.prog 5 #[.pointer (some ⟨M, 0, none⟩), .slice (some ⟨S, 0, none⟩) 4 4, .agg #[.int .i64 z, .int .i64 round], .int .i64 i, .int .i64 t] w fun e w' =>
      e = .returned (.int .i64 v) ∧ w' = w.alloc (.cells #[.int .i64 z, .int .i64 round] 29) := by
  have h := send_any M S n st cnt pos rel z round i t w hn0 hn1 hi0 hi1 hc0 hc1 hp0 hp1 hr0 hr1 hMs hSs hM hS0 hS1 hS2 hS3
  rw [hv] at h
  exact h

/-- what a round leaves as it was: the model's and the variables' cells -/
def Keep (M S : Nat) (n st cnt pos rel : Int) (w : World) : Prop :=
  M < w.heap.size ∧ S < w.heap.size ∧ w.cell? ⟨M, 0, none⟩ = some (.int .i64 n) ∧ w.cell? ⟨S, 0, none⟩ = some (.int .u8 st) ∧
  w.cell? ⟨S, 1, none⟩ = some (.int .u8 cnt) ∧ w.cell? ⟨S, 2, none⟩ = some (.int .u8 pos) ∧ w.cell? ⟨S, 3, none⟩ = some (.int .u8 rel)

theorem Keep.alloc {M S : Nat} {n st cnt pos rel : Int} {w : World} (h : Keep M S n st cnt pos rel w) (o : Obj) : Keep M S n st cnt pos rel (w.alloc o) := by
  obtain ⟨a, b, c, d, e, f, g⟩ := h
  exact ⟨by simp; omega, by simp; omega, (World.cell?_alloc_past _ _ _ a).trans c, (World.cell?_alloc_past _ _ _ b).trans d, (World.cell?_alloc_past _ _ _ b).trans e, (World.cell?_alloc_past _ _ _ b).trans f, (World.cell?_alloc_past _ _ _ b).trans g⟩

theorem send_keep (M S : Nat) (n st cnt pos rel z round i t v : Int) (w : World) (hn0 : 3 ≤ n) (hn1 : n ≤ 10) (hi0 : -1 ≤ i) (hi1 : i ≤ 30)
    (hc0 : 0 ≤ cnt) (hc1 : cnt ≤ 255) (hp0 : 0 ≤ pos) (hp1 : pos ≤ 255) (hr0 : 0 ≤ rel) (hr1 : rel ≤ 255)
    (hk : Keep M S n st cnt pos rel w) (hv : sendp n st cnt pos rel round i t = v) :
    Calls Yba.prog 5 #[.pointer (some ⟨M, 0, none⟩), .slice (some ⟨S, 0, none⟩) 4 4, .agg #[.int .i64 z, .int .i64 round], .int .i64 i, .int .i64 t] w fun e w' =>
      e = .returned (.int .i64 v) ∧ w' = w.alloc (.cells #[.int .i64 z, .int .i64 round] 29) := by
  obtain ⟨a, b, c, d, e, f, g⟩ := hk
  exact send_val M S n st cnt pos rel z round i t v w hn0 hn1 hi0 hi1 hc0 hc1 hp0 hp1 hr0 hr1 a b c d e f g hv

theorem sendp_relay (n st cnt pos rel i t : Int) (h : n ≤ i) (ht : t ≠ i) : sendp n st cnt pos rel 1 i t = rel - 1 := by
  simp [sendp, h, ht]
theorem sendp_self (n st cnt pos rel i : Int) : sendp n st cnt pos rel 1 i i = -1 := by
  simp [sendp]
theorem sendp_node (n st cnt pos rel i t : Int) (h : i < n) : sendp n st cnt pos rel 1 i t = -1 := by
  simp [sendp]; omega
theorem sendp_guard (n st cnt pos rel i t : Int) (h : n ≤ i) : sendp n st cnt pos rel 0 i t = -1 := by
  simp [sendp]; omega
end Go.Proofs.Ybulkaydo
