import Derived.Lib.ItoaNum
import Derived.Lib.BitFns
namespace Go.Proofs.YbulkayguDoor
open Go

/-- a source of the set: its uuid's two turning bytes, its tag, its intervals -/
structure Src where
  hi : Int
  lo : Int
  tag : ByteArray
  ivs : List (Int × Int)

/-- the text's length of an interval -/
def ivLen (a b : Int) : Nat := 1 + Lib.nDigits a.toNat + (if b = a then 0 else 1 + Lib.nDigits b.toNat)
def ivsLen : List (Int × Int) → Nat
  | [] => 0
  | p :: r => ivLen p.1 p.2 + ivsLen r
/-- an entry's head -/
def headLen : Option Src → Src → Nat
  | none, _ => 36
  | some p, s => if p.hi = s.hi ∧ p.lo = s.lo then 0 else 38
def tagLen (t : ByteArray) : Nat := if t.size = 0 then 0 else 1 + t.size
def srcLen (prev : Option Src) (s : Src) : Nat := headLen prev s + tagLen s.tag + ivsLen s.ivs
def total : Option Src → List Src → Nat
  | _, [] => 0
  | prev, s :: r => srcLen prev s + total (some s) r

theorem ivsLen_append (a b : List (Int × Int)) : ivsLen (a ++ b) = ivsLen a + ivsLen b := by
  induction a with
  | nil => simp [ivsLen]
  | cons x r ih => simp [ivsLen, ih]; omega

theorem ivsLen_take (l : List (Int × Int)) (j : Nat) (p : Int × Int) (h : l[j]? = some p) : ivsLen (l.take (j + 1)) = ivsLen (l.take j) + ivLen p.1 p.2 := by
  obtain ⟨hj, e⟩ := List.getElem?_eq_some_iff.1 h
  rw [List.take_succ_eq_append_getElem hj, ivsLen_append, e]
  simp [ivsLen]

theorem total_take (srcs : List Src) : ∀ (prev : Option Src) (k : Nat) (s : Src), srcs[k]? = some s →
    total prev (srcs.take (k + 1)) = total prev (srcs.take k) + srcLen (if k = 0 then prev else srcs[k - 1]?) s := by
  induction srcs with
  | nil => intro prev k s h; simp at h
  | cons x r ih =>
    intro prev k s h
    cases k with
    | zero =>
      simp at h
      subst h
      simp [total]
    | succ k =>
      rw [List.getElem?_cons_succ] at h
      rw [List.take_succ_cons, List.take_succ_cons, total, total, ih (some x) k s h]
      cases k with
      | zero => simp; omega
      | succ k => simp; omega

/-- what holds of every source that the law builds -/
structure Src.Ok (s : Src) : Prop where
  hi0 : 0 ≤ s.hi
  hi1 : s.hi ≤ 255
  lo0 : 0 ≤ s.lo
  lo1 : s.lo ≤ 255
  tag : s.tag.size ≤ 4
  len : s.ivs.length ≤ 600
  ivs : ∀ p ∈ s.ivs, 1 ≤ p.1 ∧ p.1 ≤ p.2 ∧ p.2 ≤ 4700000000000000000

theorem nDigits_le19 (n : Nat) (h : n < 10000000000000000000) : Lib.nDigits n ≤ 19 := by
  rcases Nat.lt_or_ge (Lib.nDigits n) 20 with h' | h'
  · omega
  · exfalso
    have h1 := Lib.nDigits_pos n
    obtain ⟨k, hk⟩ : ∃ k, Lib.nDigits n = k + 1 := ⟨Lib.nDigits n - 1, by omega⟩
    have h2 : 10 ^ k ≤ n := by
      rcases Nat.lt_or_ge n (10 ^ k) with h3 | h3
      · exfalso
        have : ∀ (m j : Nat), m < 10 ^ (j + 1) → Lib.nDigits m ≤ j + 1 := by
          intro m j
          induction j generalizing m with
          | zero => intro h; rw [Lib.nDigits_small (by simpa using h)]; omega
          | succ j ih =>
            intro h
            by_cases h10 : m < 10
            · rw [Lib.nDigits_small h10]; omega
            · rw [Lib.nDigits_big h10]
              have := ih (m / 10) (by rw [Nat.div_lt_iff_lt_mul (by omega)]; rw [Nat.pow_succ] at h; exact h)
              omega
        have h4 := this n (k - 1) (by rw [show k - 1 + 1 = k from by omega]; exact h3)
        omega
      · exact h3
    have h5 : (10 : Nat) ^ 19 ≤ 10 ^ k := Nat.pow_le_pow_right (by omega) (by omega)
    have h6 : (10 : Nat) ^ 19 = 10000000000000000000 := by decide
    omega

theorem ivLen_le (a b : Int) (h1 : 1 ≤ a) (h2 : a ≤ b) (h3 : b ≤ 4700000000000000000) : ivLen a b ≤ 40 := by
  unfold ivLen
  have e1 := nDigits_le19 a.toNat (by omega)
  have e2 := nDigits_le19 b.toNat (by omega)
  split <;> omega

theorem ivsLen_le (l : List (Int × Int)) (h : ∀ p ∈ l, 1 ≤ p.1 ∧ p.1 ≤ p.2 ∧ p.2 ≤ 4700000000000000000) : ivsLen l ≤ 40 * l.length := by
  induction l with
  | nil => simp [ivsLen]
  | cons x r ih =>
    have hx := h x (by simp)
    have := ivLen_le x.1 x.2 hx.1 hx.2.1 hx.2.2
    have := ih (fun p hp => h p (by simp [hp]))
    simp only [ivsLen, List.length_cons]
    omega

theorem srcLen_le (prev : Option Src) (s : Src) (h : s.Ok) : srcLen prev s ≤ 25000 := by
  have h1 := ivsLen_le s.ivs h.ivs
  have h2 := h.len
  have h3 := h.tag
  have h4 : headLen prev s ≤ 38 := by
    cases prev with
    | none => simp [headLen]
    | some p => simp only [headLen]; split <;> omega
  have h5 : tagLen s.tag ≤ 5 := by unfold tagLen; split <;> omega
  unfold srcLen
  omega

theorem total_le (srcs : List Src) : ∀ (prev : Option Src), (∀ s ∈ srcs, s.Ok) → total prev srcs ≤ 25000 * srcs.length := by
  induction srcs with
  | nil => intro prev _; simp [total]
  | cons x r ih =>
    intro prev h
    have := srcLen_le prev x (h x (by simp))
    have := ih (some x) (fun s hs => h s (by simp [hs]))
    simp only [total, List.length_cons]
    omega

/-- decimalLen's own reckoning -/
theorem dlen_eq (n : Nat) (h1 : 1 ≤ n) (h2 : n < 9223372036854775808) :
    (if 10 ^ (Lib.bitLen n * 1233 / 4096) ≤ n then Lib.bitLen n * 1233 / 4096 + 1 else Lib.bitLen n * 1233 / 4096) = Lib.nDigits n ∧ Lib.bitLen n * 1233 / 4096 ≤ 18 ∧ Lib.bitLen n ≤ 63 := by
  have hb : Lib.bitLen n ≤ 63 := Lib.bitLen_le n 63 (by omega) h2
  have e : ∀ L : Fin 64, L.val * 1233 / 4096 = Lib.l10 L.val ∧ L.val * 1233 / 4096 ≤ 18 := by decide +kernel
  obtain ⟨e1, e2⟩ := e ⟨Lib.bitLen n, by omega⟩
  have e1' : Lib.bitLen n * 1233 / 4096 = Lib.l10 (Lib.bitLen n) := e1
  have := (Lib.numDigits_eq n h1 (by omega)).1
  refine ⟨?_, e2, hb⟩
  rw [e1']
  split at this
  · rw [if_pos ‹_›]; omega
  · rw [if_neg ‹_›]; omega
end Go.Proofs.YbulkayguDoor
