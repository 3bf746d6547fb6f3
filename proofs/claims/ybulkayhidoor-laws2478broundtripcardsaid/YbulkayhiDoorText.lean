import Derived.Lib.ItoaNum
import Derived.Lib.ItoaMem
namespace Go.Proofs.YbulkayhiDoor
open Go Go.Lib

/-- seven decimals of f -/
def frac7 (f : Nat) : List UInt8 := [dg f 6, dg f 5, dg f 4, dg f 3, dg f 2, dg f 1, dg f 0]

/-- a coordinate's text: the sign, whole degrees, a point, seven decimals -/
def degL (v : Int) : List UInt8 := (if v < 0 then [45] else []) ++ decDigits (v.natAbs / 10000000) ++ 46 :: frac7 (v.natAbs % 10000000)

theorem nDigits_eight (f : Nat) (h : f < 10000000) : nDigits (f + 10000000) = 8 := by
  rw [nDigits_big (by omega), nDigits_big (by omega), nDigits_big (by omega), nDigits_big (by omega), nDigits_big (by omega), nDigits_big (by omega), nDigits_big (by omega), nDigits_small (by omega)]

theorem dg_ten (f : Nat) : dg (f + 10000000) 6 = dg f 6 ∧ dg (f + 10000000) 5 = dg f 5 ∧ dg (f + 10000000) 4 = dg f 4 ∧ dg (f + 10000000) 3 = dg f 3 ∧ dg (f + 10000000) 2 = dg f 2 ∧ dg (f + 10000000) 1 = dg f 1 ∧ dg (f + 10000000) 0 = dg f 0 := by
  refine ⟨?_, ?_, ?_, ?_, ?_, ?_, ?_⟩ <;> (unfold dg; congr 2; simp only [Nat.reducePow]; omega)

theorem frac_digits (f : Nat) (h : f < 10000000) : (decDigits (f + 10000000)).drop 1 = frac7 f := by
  obtain ⟨a, b, c, d, e, g, i⟩ := dg_ten f
  rw [decDigits_eq, nDigits_eight f h]
  simp [List.range_succ, frac7, a, b, c, d, e, g, i]

theorem frac_length (f : Nat) (h : f < 10000000) : (decDigits (f + 10000000)).length = 8 := by
  rw [decDigits_length, nDigits_eight f h]

theorem whole_length (n : Nat) (h : n < 1000) : 1 ≤ (decDigits n).length ∧ (decDigits n).length ≤ 3 := by
  rw [decDigits_length]
  by_cases h1 : n < 10
  · rw [nDigits_small h1]; omega
  · rw [nDigits_big h1]
    by_cases h2 : n / 10 < 10
    · rw [nDigits_small h2]; omega
    · rw [nDigits_big h2, nDigits_small (by omega)]; omega

theorem degL_length (v : Int) (h : v.natAbs < 10000000000) : 9 ≤ (degL v).length ∧ (degL v).length ≤ 12 := by
  have := whole_length (v.natAbs / 10000000) (by omega)
  unfold degL
  split <;> simp [frac7] <;> omega
end Go.Proofs.YbulkayhiDoor
