import Derived.Test.YbulkayguDoorEq
import Derived.Deep.MidRow
import Derived.Lib.Strings
import Derived.Deep.DeepCutAuto
namespace Go.Proofs.YbulkayguDoor
open Go Go.RowKit

/-- a source's cells; v: its intervals' slice -/
def srcCells (s : Src) (v : Value) : List Value :=
  [.int .u8 s.hi, .int .u8 s.lo, .int .u8 0, .int .u8 0, .int .u8 0, .int .u8 171, .int .u8 0, .int .u8 0, .int .u8 0, .int .u8 0, .int .u8 0, .int .u8 0, .int .u8 0, .int .u8 0, .int .u8 0, .int .u8 0, .string s.tag, v]

/-- intervals in memory, below block B -/
def IvAt (B : Nat) (w : World) (v : Value) (ivs : List (Int × Int)) : Prop :=
  ∃ G cap, v = .slice (some ⟨G, 0, none⟩) ivs.length cap ∧ G < B ∧ ∀ j p, ivs[j]? = some p → w.cell? ⟨G, j * 2, none⟩ = some (.int .i64 p.1) ∧ w.cell? ⟨G, j * 2 + 1, none⟩ = some (.int .i64 p.2)

def SrcAt (B : Nat) (w : World) (R i : Nat) (s : Src) : Prop :=
  ∃ v, w.rangeAt R (i * 18) (srcCells s v) ∧ IvAt B w v s.ivs

/-- a set in memory, all of it below block B -/
def SetAt (B : Nat) (w : World) (S : Nat) (srcs : List Src) : Prop :=
  S < B ∧ ∃ ao cap, w.cell? ⟨S, 0, none⟩ = some (.slice ao srcs.length cap) ∧
    (∀ k s, srcs[k]? = some s → ∃ R, ao = some ⟨R, 0, none⟩ ∧ R < B ∧ SrcAt B w R k s)

theorem IvAt.below {B : Nat} {w w' : World} {v : Value} {ivs : List (Int × Int)} (h : IvAt B w v ivs) (hb : Below B w w') : IvAt B w' v ivs := by
  obtain ⟨G, cap, rfl, hG, hc⟩ := h
  exact ⟨G, cap, rfl, hG, fun j p hj => ⟨(hb.cell (p := ⟨G, j * 2, none⟩) hG).trans (hc j p hj).1, (hb.cell (p := ⟨G, j * 2 + 1, none⟩) hG).trans (hc j p hj).2⟩⟩

theorem SrcAt.below {B : Nat} {w w' : World} {R i : Nat} {s : Src} (h : SrcAt B w R i s) (hR : R < B) (hb : Below B w w') : SrcAt B w' R i s := by
  obtain ⟨v, h1, h2⟩ := h
  exact ⟨v, fun j u hu => (hb.cell (p := ⟨R, i * 18 + j, none⟩) hR).trans (h1 j u hu), h2.below hb⟩

theorem SetAt.below {B : Nat} {w w' : World} {S : Nat} {srcs : List Src} (h : SetAt B w S srcs) (hb : Below B w w') : SetAt B w' S srcs := by
  obtain ⟨hS, ao, cap, h1, h2⟩ := h
  refine ⟨hS, ao, cap, (hb.cell (p := ⟨S, 0, none⟩) hS).trans h1, ?_⟩
  intro k s hk
  obtain ⟨R, e, hR, h3⟩ := h2 k s hk
  exact ⟨R, e, hR, h3.below hR hb⟩

theorem IvAt.mono {B B' : Nat} {w : World} {v : Value} {ivs : List (Int × Int)} (h : IvAt B w v ivs) (hB : B ≤ B') : IvAt B' w v ivs := by
  obtain ⟨G, cap, rfl, hG, hc⟩ := h
  exact ⟨G, cap, rfl, by omega, hc⟩
theorem SetAt.mono {B B' : Nat} {w : World} {S : Nat} {srcs : List Src} (h : SetAt B w S srcs) (hB : B ≤ B') : SetAt B' w S srcs := by
  obtain ⟨hS, ao, cap, h1, h2⟩ := h
  refine ⟨by omega, ao, cap, h1, ?_⟩
  intro k s hk
  obtain ⟨R, e, hR, v, h3, h4⟩ := h2 k s hk
  exact ⟨R, e, by omega, v, h3, h4.mono hB⟩

/-- the cells of a source, one by one -/
structure SrcCells (w : World) (R o : Nat) (s : Src) (v : Value) : Prop where
  c0 : w.cell? ⟨R, o, none⟩ = some (.int .u8 s.hi)
  c1 : w.cell? ⟨R, o + 1, none⟩ = some (.int .u8 s.lo)
  c2 : w.cell? ⟨R, o + 2, none⟩ = some (.int .u8 0)
  c3 : w.cell? ⟨R, o + 3, none⟩ = some (.int .u8 0)
  c4 : w.cell? ⟨R, o + 4, none⟩ = some (.int .u8 0)
  c5 : w.cell? ⟨R, o + 5, none⟩ = some (.int .u8 171)
  c6 : w.cell? ⟨R, o + 6, none⟩ = some (.int .u8 0)
  c7 : w.cell? ⟨R, o + 7, none⟩ = some (.int .u8 0)
  c8 : w.cell? ⟨R, o + 8, none⟩ = some (.int .u8 0)
  c9 : w.cell? ⟨R, o + 9, none⟩ = some (.int .u8 0)
  c10 : w.cell? ⟨R, o + 10, none⟩ = some (.int .u8 0)
  c11 : w.cell? ⟨R, o + 11, none⟩ = some (.int .u8 0)
  c12 : w.cell? ⟨R, o + 12, none⟩ = some (.int .u8 0)
  c13 : w.cell? ⟨R, o + 13, none⟩ = some (.int .u8 0)
  c14 : w.cell? ⟨R, o + 14, none⟩ = some (.int .u8 0)
  c15 : w.cell? ⟨R, o + 15, none⟩ = some (.int .u8 0)
  c16 : w.cell? ⟨R, o + 16, none⟩ = some (.string s.tag)
  c17 : w.cell? ⟨R, o + 17, none⟩ = some v

theorem srcCells_of {w : World} {R o : Nat} {s : Src} {v : Value} (h : w.rangeAt R o (srcCells s v)) : SrcCells w R o s v :=
  ⟨h 0 _ rfl, h 1 _ rfl, h 2 _ rfl, h 3 _ rfl, h 4 _ rfl, h 5 _ rfl, h 6 _ rfl, h 7 _ rfl, h 8 _ rfl, h 9 _ rfl, h 10 _ rfl, h 11 _ rfl, h 12 _ rfl, h 13 _ rfl, h 14 _ rfl, h 15 _ rfl, h 16 _ rfl, h 17 _ rfl⟩

theorem Ybad.size48 : (Ybad.prog.info? 48).map (·.size) = some 18 := by kernel_rfl
theorem Ybad.size44 : (Ybad.prog.info? 44).map (·.size) = some 2 := by kernel_rfl
theorem Ybad.size40 : (Ybad.prog.info? 40).map (·.size) = some 16 := by kernel_rfl
theorem guard40 : Ybad.prog.eqGuardType Ybad.prog.depth 40 = false := by kernel_rfl
theorem srcCells_length (s : Src) (v : Value) : (srcCells s v).length = 18 := rfl
theorem srcCells_one (s : Src) (ao : Option Addr) (n c : Nat) : (srcCells s (.slice ao n c)).toArray.all (·.oneCell') = true := by
  simp [srcCells, Value.oneCell']

theorem there_new (w : World) (c : Array Value) (t : TypeId) (n : Nat) (h : n ≤ c.size) : (w.alloc (.cells c t)).there w.heap.size 0 n := by
  intro j hj
  rw [Nat.zero_add]
  refine ⟨?_, ?_⟩
  · rw [World.cell?_alloc_at c t _ _ rfl, Array.getElem?_eq_getElem (by omega)]; rfl
  · exact frozen_of_row _ _ _ c t (heap_alloc_new w _)

/-- a new block, filled at once -/
def boxW (w : World) (c : Array Value) (t : TypeId) (cs : List Value) : World := (w.alloc (.cells c t)).setCells w.heap.size 0 cs

theorem below_setCells {B b : Nat} {a : World} (hb : B ≤ b) : ∀ (vs : List Value) (o : Nat) (w : World), Below B a w → Below B a (w.setCells b o vs)
  | [], _, _, h => h
  | v :: r, o, _, h => below_setCells hb r (o + 1) _ (h.setCell (p := ⟨b, o, none⟩) hb v)

theorem size_setCells (b : Nat) : ∀ (vs : List Value) (o : Nat) (w : World), (w.setCells b o vs).heap.size = w.heap.size
  | [], _, _ => rfl
  | _ :: r, o, _ => (size_setCells b r (o + 1) _).trans (by simp)

/-- a box that is filled at once: what it holds; all else is as it was -/
theorem boxed (w : World) (c : Array Value) (t : TypeId) (cs : List Value) (h : cs.length ≤ c.size) :
    (boxW w c t cs).rangeAt w.heap.size 0 cs ∧ Below w.heap.size w (boxW w c t cs) ∧ (boxW w c t cs).heap.size = w.heap.size + 1 :=
  ⟨World.rangeAt_setCells_same _ _ _ _ (there_new w c t cs.length h), below_setCells (Nat.le_refl _) cs 0 _ ((Below.refl _ _).alloc (Nat.le_refl _) _), (size_setCells _ _ _ _).trans (by simp)⟩

/-- 'x := y' of a struct into a new block: the world behind it by what it holds -/
theorem wpList_fill {P : Program} {ops : Array Oper} {rest : List Oper} {op : Oper} {a : Act} {w0 : World} {Q : Exit → Act → World → Prop} (hgd : op.guard = none) (ty : TypeId) (x y : Operand) (ho : op.op = .store ty x y) (hd : op.dst = none)
    (c : Array Value) (cs : List Value) (hx : a.eval x = .pointer (some ⟨w0.heap.size, 0, none⟩)) (hy : a.eval y = .agg cs.toArray) (hcs : cs.length ≤ c.size) (hi : (P.info? ty).map (·.size) = some cs.length) (h1 : cs.toArray.all (·.oneCell') = true)
    (h : ∀ wb, wb.rangeAt w0.heap.size 0 cs → Below w0.heap.size w0 wb → wb.heap.size = w0.heap.size + 1 → wpList P ops Q rest a wb) : wpList P ops Q (op :: rest) a (w0.alloc (.cells c ty)) := by
  obtain ⟨b1, b2, b3⟩ := boxed w0 c ty cs hcs
  refine wpList_store_mid hgd ty x y ho w0.heap.size 0 cs.toArray hx hy (there_new w0 c ty _ (by simpa using hcs)) (by simpa using hi) h1 ?_
  have := h _ b1 b2 b3
  rw [hd]
  exact this

theorem z48 (s : Src) (v : Value) (c : Array Value) (h : c.size = 18) : (srcCells s v).length ≤ c.size := by rw [srcCells_length, h]; exact Nat.le_refl _

/-- does the source open a new entry? -/
def hdB : Option Src → Src → Bool
  | none, _ => true
  | some p, s => !(s.hi == p.hi) || !(s.lo == p.lo)
def prevOf (srcs : List Src) (k : Nat) : Option Src := if k = 0 then none else srcs[k - 1]?

theorem head_yes {srcs : List Src} {k : Nat} {s : Src} (hk : k ≤ srcs.length) (h : hdB (prevOf srcs k) s = true) : headLen (prevOf srcs k) s = if k = 0 then 36 else 38 := by
  unfold prevOf at *
  by_cases h0 : k = 0
  · simp [h0, headLen]
  · rw [if_neg h0] at h ⊢
    have hlt : k - 1 < srcs.length := by omega
    rw [List.getElem?_eq_getElem hlt] at h ⊢
    simp only [hdB] at h
    simp only [headLen]
    rw [if_neg, if_neg h0]
    rintro ⟨e1, e2⟩
    simp [e1, e2] at h
theorem head_no {srcs : List Src} {k : Nat} {s : Src} (h : hdB (prevOf srcs k) s = false) (hk : k ≤ srcs.length) : headLen (prevOf srcs k) s = 0 ∧ k ≠ 0 := by
  unfold prevOf at *
  by_cases h0 : k = 0
  · simp [h0, hdB] at h
  · rw [if_neg h0] at h ⊢
    have hlt : k - 1 < srcs.length := by omega
    rw [List.getElem?_eq_getElem hlt] at h ⊢
    simp only [hdB] at h
    simp only [headLen]
    simp at h
    exact ⟨by rw [if_pos ⟨h.1.symm, h.2.symm⟩], h0⟩


set_option maxRecDepth 100000 in
set_option maxHeartbeats 2000000 in
theorem textLen_any (S : Nat) (srcs : List Src) (w : World) (hset : SetAt w.heap.size w S srcs) (hok : ∀ s ∈ srcs, s.Ok) (hlen : srcs.length ≤ 1024) (hp : Pow w) (hg : 1 < w.heap.size) :
    Calls Ybad.prog 9 #[.pointer (some ⟨S, 0, none⟩)] w fun e w' => e = .returned (.int .i64 (total none srcs)) ∧ Below w.heap.size w w' := by
  obtain ⟨hS, ao, cap, hcell, hsrc⟩ := hset
  have HS := Lib.hid hsrc
  have HOK := Lib.hid hok
  have HP := Lib.hid hp
  clear hsrc hok hp
  go_enter Ybad.func9, Ybad.ntmps9
  go_wp2_with fail
  go_loopw [3, 4, 5, 7, 13] (fun s3 _ _ _ s13 wr => ∃ k : Nat, k ≤ srcs.length ∧ s13 = .int .i64 k ∧ s3 = .int .i64 (total none (srcs.take k)) ∧ Below w.heap.size w wr)
    (fun _ _ _ _ s13 _ => srcs.length - (intOf s13).toNat)
  case atStart => exact ⟨0, by omega, rfl, rfl, Below.refl _ _⟩
  case round =>
    obtain ⟨k, hk, rfl, rfl, hbel⟩ := hrel
    have hszr := hbel.size
    by_cases hlt : k < srcs.length
    · obtain ⟨s, hs⟩ : ∃ s, srcs[k]? = some s := ⟨_, List.getElem?_eq_getElem hlt⟩
      obtain ⟨R, rfl, hR, v, hrng, hiv⟩ := HS.out k s hs
      have hsok := HOK.out s (List.mem_of_getElem? hs)
      have HTT : Hid (total none (srcs.take (k + 1)) = total none (srcs.take k) + srcLen (prevOf srcs k) s) := total_take srcs none k s hs
      have htot : total none (srcs.take k) ≤ 25600000 := by
        have h1 := total_le (srcs.take k) none (fun x hx => HOK.out x (List.mem_of_mem_take hx))
        have h2 : (srcs.take k).length ≤ 1024 := by rw [List.length_take]; omega
        omega
      have hcr : wr.cell? ⟨S, 0, none⟩ = some (.slice (some ⟨R, 0, none⟩) srcs.length cap) := (hbel.cell (p := ⟨S, 0, none⟩) hS).trans hcell
      obtain ⟨G, capG, rfl, hG, hivc⟩ := hiv
      have hrr : wr.rangeAt R (k * 18) (srcCells s (.slice (some ⟨G, 0, none⟩) s.ivs.length capG)) := fun j u hu => (hbel.cell (p := ⟨R, k * 18 + j, none⟩) hR).trans (hrng j u hu)
      have HRR := Lib.hid hrr
      have HIV := Lib.hid hivc
      have HOKS := Lib.hid hsok
      clear hivc hrr hrng hcell hsok
      go_upto_region 5 with (first
        | (refine wpList_load_mid rfl 48 (.tmp 16) rfl R (k * 18) rfl (srcCells s (.slice (some ⟨G, 0, none⟩) s.ivs.length capG)) _ HRR.out Ybad.underlying48 rfl Ybad.size48 ?_)
        | (refine wpList_fill rfl 48 (.tmp 5) (.tmp 17) rfl rfl _ (srcCells s (.slice (some ⟨G, 0, none⟩) s.ivs.length capG)) rfl rfl (z48 _ _ _ rfl) Ybad.size48 (srcCells_one _ _ _ _) ?_; intro wb hrb hbb hsb; refine Hid.out ?_))
      refine Lib.hid ?_
      have HRB := Lib.hid hrb
      clear hrb
      go_upto_region 5 with fail
      go_cut [35] (fun s35 wx => s35 = .bool (hdB (prevOf srcs k) s) ∧ ∃ nq, wx = wb.drewN nq)
      case first =>
        by_cases hk0 : k = 0
        · have hk0' : ((k : Int) == 0) = true := by simp; omega
          have HK0 : Hid (k = 0) := hk0
          clear hk0
          go_quiet (fail)
          go_wp2_with fail
          go_meet
          case rel => exact ⟨by unfold prevOf; rw [if_pos HK0.out]; rfl, _, rfl⟩
        · have hk0' : ((k : Int) == 0) = false := by simp; omega
          obtain ⟨c0, c1, c2, c3, c4, c5, c6, c7, c8, c9, c10, c11, c12, c13, c14, c15, _, _⟩ := srcCells_of HRB.out
          simp only [Nat.zero_add] at c1 c2 c3 c4 c5 c6 c7 c8 c9 c10 c11 c12 c13 c14 c15
          obtain ⟨kp, hkp⟩ : ∃ kp, k = kp + 1 := ⟨k - 1, by omega⟩
          have hw1 : IntKind.i64.wrap ((k : Int) - 1) = (kp : Int) := by rw [IntKind.wrap_i64]; omega
          have hkl : (kp : Int) < (srcs.length : Int) := by omega
          obtain ⟨sp, hsp⟩ : ∃ sp, srcs[kp]? = some sp := ⟨_, List.getElem?_eq_getElem (by omega)⟩
          have HPV : Hid (hdB (prevOf srcs k) s = (!(s.hi == sp.hi) || !(s.lo == sp.lo))) := by
            show hdB (prevOf srcs k) s = _
            unfold prevOf
            rw [if_neg hk0, show k - 1 = kp from by omega, hsp]
            rfl
          clear hkp
          obtain ⟨R', eR, _, vp, hrp, _⟩ := HS.out kp sp hsp
          obtain rfl : R = R' := by simpa using eR
          have hcb : wb.cell? ⟨S, 0, none⟩ = some (.slice (some ⟨R, 0, none⟩) srcs.length cap) := (hbb.cell (p := ⟨S, 0, none⟩) (by show S < wr.heap.size; omega)).trans hcr
          have hrp' : wb.rangeAt R (kp * 18) (srcCells sp vp) := fun j u hu => (hbb.cell (p := ⟨R, kp * 18 + j, none⟩) (by show R < wr.heap.size; omega)).trans ((hbel.cell (p := ⟨R, kp * 18 + j, none⟩) hR).trans (hrp j u hu))
          obtain ⟨d0, d1, d2, d3, d4, d5, d6, d7, d8, d9, d10, d11, d12, d13, d14, d15, _, _⟩ := srcCells_of hrp'
          clear hrp' hrp hcr eR hk0 hsp
          have hgd : Ybad.prog.eqGuardType Ybad.prog.depth 40 = false := guard40
          have hue : ∀ w, (Op.equalIn 10000 40 (.agg #[.int .u8 s.hi, .int .u8 s.lo, .int .u8 0, .int .u8 0, .int .u8 0, .int .u8 171, .int .u8 0, .int .u8 0, .int .u8 0, .int .u8 0, .int .u8 0, .int .u8 0, .int .u8 0, .int .u8 0, .int .u8 0, .int .u8 0]) (.agg #[.int .u8 sp.hi, .int .u8 sp.lo, .int .u8 0, .int .u8 0, .int .u8 0, .int .u8 171, .int .u8 0, .int .u8 0, .int .u8 0, .int .u8 0, .int .u8 0, .int .u8 0, .int .u8 0, .int .u8 0, .int .u8 0, .int .u8 0])).run Ybad.prog w = .ok (s.hi == sp.hi && s.lo == sp.lo) w := fun w => uu_equal s.hi s.lo sp.hi sp.lo w
          go_quiet (fail)
          go_wp2_with fail
          go_meet
          case rel => exact ⟨by rw [HPV.out], _, rfl⟩
      case rest =>
        obtain ⟨hs35, nq, hwx⟩ := hcut
        obtain ⟨hd, hhd⟩ : ∃ hd, hdB (prevOf srcs k) s = hd := ⟨_, rfl⟩
        rw [hhd] at hs35
        have HHD : Hid (hdB (prevOf srcs k) s = hd) := hhd
        subst hwx hs35
        clear hhd hcr
        have HBB := Lib.hid (hbel.trans (hbb.mono hszr))
        have c16 := (srcCells_of HRB.out).c16
        have c17 := (srcCells_of HRB.out).c17
        simp only [Nat.zero_add] at c16 c17
        have hsb2 : w.heap.size ≤ wb.heap.size := by omega
        clear hbel hbb HRR HRB
        obtain ⟨H1, hH1⟩ : ∃ H1, headLen (prevOf srcs k) s = H1 := ⟨_, rfl⟩
        have HH1 : Hid (headLen (prevOf srcs k) s = H1) := hH1
        have hH1b : H1 ≤ 38 := by
          rw [← hH1]
          cases hd
          · rw [(head_no HHD.out hk).1]; omega
          · rw [head_yes hk HHD.out]; split <;> omega
        clear hH1
        go_upto_if 35 with fail
        go_cut [3] (fun s3 wx => s3 = .int .i64 ((total none (srcs.take k) + H1 : Nat) : Int) ∧ wx = wb.drewN nq)
        case first =>
          cases hd
          · have e := (head_no HHD.out hk).1
            rw [HH1.out] at e
            go_wp2_with fail
            go_meet
            case rel => exact ⟨by rw [e]; rfl, rfl⟩
          · have e := head_yes hk HHD.out
            rw [HH1.out] at e
            have HE := Lib.hid e
            clear e
            by_cases hk0 : 0 < k
            · go_wp2_with fail
              go_meet
              case rel => exact ⟨congrArg _ (by have := HE.out; rw [if_neg (by omega)] at this; omega), rfl⟩
            · go_wp2_with fail
              go_meet
              case rel => exact ⟨congrArg _ (by have := HE.out; rw [if_pos (by omega)] at this; omega), rfl⟩
        case rest =>
          obtain ⟨hs3, hwx⟩ := hcut
          subst hs3 hwx
          go_upto_if 45 with fail
          obtain ⟨T1, hT1⟩ : ∃ T1, tagLen s.tag = T1 := ⟨_, rfl⟩
          have HT1 : Hid (tagLen s.tag = T1) := hT1
          have htg := HOKS.out.tag
          have hT1b : T1 ≤ 5 := by rw [← hT1]; unfold tagLen; split <;> omega
          clear hT1
          go_cut [3] (fun s3 wx => s3 = .int .i64 ((total none (srcs.take k) + H1 + T1 : Nat) : Int) ∧ wx = wb.drewN nq)
          case first =>
            have htl : s.tag.toList.length = s.tag.size := by rw [Lib.toList_data, ← Lib.size_eq]
            obtain ⟨tb, htb⟩ : ∃ tb, (!s.tag.toList.isEmpty) = tb := ⟨_, rfl⟩
            rw [htb]
            have HTB : Hid (T1 = if tb then 1 + s.tag.size else 0) := by
              show T1 = if tb then 1 + s.tag.size else 0
              rw [← HT1.out, ← htb]
              unfold tagLen
              cases hl : s.tag.toList with
              | nil => rw [hl] at htl; simp at htl; simp [← htl]
              | cons x r => rw [hl] at htl; simp only [List.length_cons] at htl; rw [if_neg (by omega)]; rfl
            clear htb htl
            cases tb
            · go_wp2_with fail
              go_meet
              case rel => exact ⟨congrArg _ (by have := HTB.out; simp at this; omega), rfl⟩
            · go_wp2_with fail
              go_meet
              case rel => exact ⟨congrArg _ (by have := HTB.out; simp at this; omega), rfl⟩
          case rest =>
            obtain ⟨hs3, hwx⟩ := hcut
            subst hs3 hwx
            obtain ⟨N0, hN0⟩ : ∃ N0, total none (srcs.take k) + H1 + T1 = N0 := ⟨_, rfl⟩
            rw [hN0]
            have HN0 : Hid (total none (srcs.take k) + H1 + T1 = N0) := hN0
            have hN0b : N0 ≤ 25600100 := by omega
            clear hN0
            have hivl := HOKS.out.len
            go_wp2_with fail
            go_loopw [3, 7, 56] (fun s3 _ s56 wi => ∃ j : Nat, j ≤ s.ivs.length ∧ s56 = .int .i64 j ∧ s3 = .int .i64 ((N0 + ivsLen (s.ivs.take j) : Nat) : Int) ∧ Below w.heap.size w wi)
              (fun _ _ s56 _ => s.ivs.length - (intOf s56).toNat)
            case atStart => exact ⟨0, by omega, rfl, rfl, HBB.out.trans ⟨rfl, rfl, rfl, Nat.le_refl _, fun _ _ => rfl⟩⟩
            case round =>
              obtain ⟨j, hj, rfl, rfl, hbi⟩ := hrel
              by_cases hjl : j < s.ivs.length
              · obtain ⟨p, hp⟩ : ∃ p, s.ivs[j]? = some p := ⟨_, List.getElem?_eq_getElem hjl⟩
                have hivok := HOKS.out.ivs p (List.mem_of_getElem? hp)
                have hil : ivsLen (s.ivs.take j) ≤ 24000 := by
                  have h1 := ivsLen_le (s.ivs.take j) (fun x hx => HOKS.out.ivs x (List.mem_of_mem_take hx))
                  have h2 : (s.ivs.take j).length ≤ 600 := by rw [List.length_take]; omega
                  omega
                have HIL : Hid (ivsLen (s.ivs.take (j + 1)) = ivsLen (s.ivs.take j) + ivLen p.1 p.2) := ivsLen_take s.ivs j p hp
                obtain ⟨g1, g2⟩ := HIV.out j p hp
                have k1 := (hbi.cell (p := ⟨G, j * 2, none⟩) hG).trans g1
                have k2 := (hbi.cell (p := ⟨G, j * 2 + 1, none⟩) hG).trans g2
                obtain ⟨A, hA⟩ : ∃ A : Nat, p.1 = A := ⟨p.1.toNat, by omega⟩
                obtain ⟨E, hE⟩ : ∃ E : Nat, p.2 = E := ⟨p.2.toNat, by omega⟩
                rw [hA] at k1 hivok HIL
                rw [hE] at k2 hivok HIL
                have hA1 : 1 ≤ A := by omega
                have hA2 : A ≤ 4700000000000000000 := by omega
                have hE1 : 1 ≤ E := by omega
                have hE2 : E ≤ 4700000000000000000 := by omega
                have HPi : Hid (∀ o, Pow (wr.alloc o)) := fun o => HP.out.below hg (hbi.alloc hbi.size o)
                have n1 := nDigits_le19 A (by omega)
                have n2 := nDigits_le19 E (by omega)
                clear g1 g2 hp hA hE hivok
                by_cases hAE : E = A
                · have hne : ((E : Int) != (A : Int)) = false := by simp; omega
                  have HAE : Hid (E = A) := hAE
                  clear hAE
                  go_wp2_with fail
                  refine (decimalLen_any A _ hA1 hA2 (HPi.out _)).mono ?_
                  rintro e w' ⟨rfl, rfl⟩
                  go_wp2_with fail
                  go_roundw
                  case rel =>
                    refine ⟨j + 1, by omega, by go_num, congrArg _ ?_, hbi.alloc hbi.size _⟩
                    rw [HIL.out]
                    unfold ivLen
                    rw [if_pos (by have := HAE.out; omega)]
                    simp
                    omega
                  case measure => simp [intOf]; omega
                · have hne : ((E : Int) != (A : Int)) = true := by simp; omega
                  have HAE : Hid (¬ E = A) := hAE
                  clear hAE
                  go_wp2_with fail
                  refine (decimalLen_any A _ hA1 hA2 (HPi.out _)).mono ?_
                  rintro e w' ⟨rfl, rfl⟩
                  go_wp2_with fail
                  refine (decimalLen_any E _ hE1 hE2 (HPi.out _)).mono ?_
                  rintro e w' ⟨rfl, rfl⟩
                  go_wp2_with fail
                  go_roundw
                  case rel =>
                    refine ⟨j + 1, by omega, by go_num, congrArg _ ?_, hbi.alloc hbi.size _⟩
                    rw [HIL.out]
                    unfold ivLen
                    rw [if_neg (by have := HAE.out; omega)]
                    simp
                    omega
                  case measure => simp [intOf]; omega
              · obtain rfl : j = s.ivs.length := by omega
                rw [List.take_length]
                obtain ⟨M, hM⟩ : ∃ M, N0 + ivsLen s.ivs = M := ⟨_, rfl⟩
                rw [hM]
                have HM : Hid (M = total none (srcs.take (k + 1))) := by
                  show M = _
                  rw [HTT.out, ← hM, ← HN0.out]
                  unfold srcLen
                  rw [HH1.out, HT1.out]
                  omega
                clear hM
                go_wp2_with fail
                go_roundw
                case rel => exact ⟨k + 1, by omega, by go_num, by rw [HM.out], hbi⟩
                case measure => simp [intOf]; omega
    · obtain rfl : k = srcs.length := by omega
      rw [List.take_length]
      go_wp2_with fail
      go_ret
      exact ⟨rfl, hbel⟩
end Go.Proofs.YbulkayguDoor
