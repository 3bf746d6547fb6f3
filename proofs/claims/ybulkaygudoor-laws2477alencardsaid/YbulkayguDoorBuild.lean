import Derived.Test.YbulkayguDoorMem
import Derived.Deep.RegionHeld3
import Derived.Laws.Tables
namespace Go.Proofs.YbulkayguDoor
open Go Go.RowKit

def tagArr : Array Value := #[.string ⟨#[]⟩, .string ⟨#[97]⟩, .string ⟨#[97, 98]⟩, .string ⟨#[98]⟩, .string ⟨#[116, 97, 103, 57]⟩, .string ⟨#[122]⟩]

theorem base_at (base : Int) : ∃ b : Nat, wrap64 ((IntKind.u64.wrap base).tmod 4611686018427387904) = (b : Int) ∧ b < 4611686018427387904 := by
  have h1 : 0 ≤ IntKind.u64.wrap base := by rw [IntKind.wrap_u64]; omega
  have e : (IntKind.u64.wrap base).tmod 4611686018427387904 = (IntKind.u64.wrap base) % 4611686018427387904 := Int.tmod_eq_emod_of_nonneg h1
  rw [e]
  refine ⟨((IntKind.u64.wrap base) % 4611686018427387904).toNat, ?_, by omega⟩
  unfold wrap64
  omega

theorem Ybad.info44 : (Ybad.prog.info? 44).map (fun i => (i.zero, i.size, i.bytes)) = some (some (.agg #[.int .i64 0, .int .i64 0]), 2, 16) := by kernel_rfl

theorem iv_at (w : World) (x y : Value) : ∀ (j : Nat) (u : Value), [x, y][j]? = some u → (w.alloc (.cells #[x, y] 44)).cell? ((⟨w.heap.size, 0, none⟩ : Addr).add j) = some u := by
  intro j u hj
  match j, hj with
  | 0, hj => simp at hj; subst hj; simp [Addr.add]
  | 1, hj => simp at hj; subst hj; simp [Addr.add]
theorem iv_one (a b : Int) : ∀ u ∈ [Value.int .i64 a, .int .i64 b], u.oneCell' = true := by
  intro u hu; simp at hu; rcases hu with rfl | rfl <;> rfl
theorem flat_push {B : Nat} {w : World} {v : Value} (ivs : List (Int × Int)) (a b : Int) (h : w.ownsRow B 44 2 v (ivs.length + 1) (ivs.flatMap ivCells ++ [.int .i64 a, .int .i64 b])) : w.ownsRow B 44 2 v (ivs ++ [(a, b)]).length ((ivs ++ [(a, b)]).flatMap ivCells) := by
  rw [List.length_append, List.flatMap_append]
  simpa [ivCells] using h

theorem tag_at (ti : Nat) (h : ti ≤ 5) : ∃ tg : ByteArray, tagArr[ti]? = some (.string tg) ∧ tg.size ≤ 4 := by
  match ti, h with
  | 0, _ => exact ⟨_, rfl, by decide⟩
  | 1, _ => exact ⟨_, rfl, by decide⟩
  | 2, _ => exact ⟨_, rfl, by decide⟩
  | 3, _ => exact ⟨_, rfl, by decide⟩
  | 4, _ => exact ⟨_, rfl, by decide⟩
  | 5, _ => exact ⟨_, rfl, by decide⟩
  | n + 6, h => omega
def zero48 : Value := .agg #[.int .u8 0, .int .u8 0, .int .u8 0, .int .u8 0, .int .u8 0, .int .u8 0, .int .u8 0, .int .u8 0, .int .u8 0, .int .u8 0, .int .u8 0, .int .u8 0, .int .u8 0, .int .u8 0, .int .u8 0, .int .u8 0, .string ⟨#[]⟩, .slice none 0 0]
theorem Ybad.info48 : (Ybad.prog.info? 48).map (fun i => (i.zero, i.size, i.bytes)) = some (some zero48, 18, 56) := by kernel_rfl
theorem uu_size' (hi lo : Int) : (Ybad.prog.info? 40).map (·.size) = some (uuCells hi lo).length := Ybad.size40
theorem uu_one' (hi lo : Int) : ∀ v ∈ uuCells hi lo, v.oneCell' = true := by
  intro v hv
  simp [uuCells] at hv
  rcases hv with rfl | rfl | rfl | rfl | rfl <;> rfl

def tsCells (hi lo : Int) (tg : ByteArray) : List Value := uuCells hi lo ++ [.string tg]
theorem bd46 (hi lo : Int) (tg : ByteArray) (w : World) : (Instr.build 46 #[(0, .agg (uuCells hi lo).toArray), (1, .string tg)]).run Ybad.prog w = .ok (.agg (tsCells hi lo tg).toArray) w := run_build w 46 _ _ (by kernel_rfl)
theorem bd48 (s : Src) (ao : Option Addr) (n c : Nat) (w : World) : (Instr.build 48 #[(0, .agg (tsCells s.hi s.lo s.tag).toArray), (1, .slice ao n c)]).run Ybad.prog w = .ok (.agg (srcCells s (.slice ao n c)).toArray) w := run_build w 48 _ _ (by kernel_rfl)
theorem bs29 (s : Src) (v : Value) (w : World) : (Instr.buildSlice 29 1 #[(0, .agg (srcCells s v).toArray)]).run Ybad.prog w = .ok (.slice (some ⟨w.heap.size, 0, none⟩) 1 1) (w.alloc (.cells (srcCells s v).toArray 48)) := by kernel_rfl

/-- what the parts of a literal are read back as -/
def hiOf (x : Value) : Int := match (x.cells[0]? : Option Value) with | some (Value.int _ n) => n | _ => 0
def loOf (x : Value) : Int := match (x.cells[1]? : Option Value) with | some (Value.int _ n) => n | _ => 0
def tgOf (y : Value) : ByteArray := match y with | .string s => s | _ => ⟨#[]⟩
def tg16 (x : Value) : ByteArray := match (x.cells[16]? : Option Value) with | some (Value.string s) => s | _ => ⟨#[]⟩
def v17 (x : Value) : Value := match (x.cells[17]? : Option Value) with | some v => v | none => .slice none 0 0
def isSl (y : Value) : Bool := match y with | .slice _ _ _ => true | _ => false
theorem hiOf_uu (hi lo : Int) : hiOf (.agg (uuCells hi lo).toArray) = hi := rfl
theorem loOf_uu (hi lo : Int) : loOf (.agg (uuCells hi lo).toArray) = lo := rfl
theorem tgOf_s (s : ByteArray) : tgOf (.string s) = s := rfl
theorem hiOf_ts (hi lo : Int) (tg : ByteArray) : hiOf (.agg (tsCells hi lo tg).toArray) = hi := rfl
theorem loOf_ts (hi lo : Int) (tg : ByteArray) : loOf (.agg (tsCells hi lo tg).toArray) = lo := rfl
theorem tg16_ts (hi lo : Int) (tg : ByteArray) : tg16 (.agg (tsCells hi lo tg).toArray) = tg := rfl
theorem isSl_s (ao : Option Addr) (n c : Nat) : isSl (.slice ao n c) = true := rfl
theorem hiOf_src (s : Src) (v : Value) : hiOf (.agg (srcCells s v).toArray) = s.hi := rfl
theorem loOf_src (s : Src) (v : Value) : loOf (.agg (srcCells s v).toArray) = s.lo := rfl
theorem tg16_src (s : Src) (v : Value) : tg16 (.agg (srcCells s v).toArray) = s.tag := rfl
theorem v17_src (s : Src) (v : Value) : v17 (.agg (srcCells s v).toArray) = v := rfl

theorem ex46 (ev : Operand → Value) (o : Oper) (W : World) (ho : o.op = .build 46 #[(0, .tmp 117), (1, .tmp 120)]) (h1 : ev (.tmp 117) = .agg (uuCells (hiOf (ev (.tmp 117))) (loOf (ev (.tmp 117)))).toArray) (h2 : ev (.tmp 120) = .string (tgOf (ev (.tmp 120)))) :
    (execOp ev o).run Ybad.prog W = .ok (.value (.agg (tsCells (hiOf (ev (.tmp 117))) (loOf (ev (.tmp 117))) (tgOf (ev (.tmp 120)))).toArray)) W := by
  have hb := bd46 (hiOf (ev (.tmp 117))) (loOf (ev (.tmp 117))) (tgOf (ev (.tmp 120))) W
  rw [← h1, ← h2] at hb
  unfold execOp
  simp only [ho, Sem.run_bind, List.map_toArray, List.map_cons, List.map_nil, hb, Result.andThen_ok, Sem.run_pure]

theorem ex48 (ev : Operand → Value) (o : Oper) (W : World) (ho : o.op = .build 48 #[(0, .tmp 121), (1, .tmp 122)]) (h1 : ev (.tmp 121) = .agg (tsCells (hiOf (ev (.tmp 121))) (loOf (ev (.tmp 121))) (tg16 (ev (.tmp 121)))).toArray) (h2 : isSl (ev (.tmp 122)) = true) :
    (execOp ev o).run Ybad.prog W = .ok (.value (.agg (srcCells ⟨hiOf (ev (.tmp 121)), loOf (ev (.tmp 121)), tg16 (ev (.tmp 121)), []⟩ (ev (.tmp 122))).toArray)) W := by
  obtain ⟨ao, n, c, hy⟩ : ∃ ao n c, ev (.tmp 122) = .slice ao n c := by
    cases hv : ev (.tmp 122) <;> rw [hv] at h2 <;> first | exact ⟨_, _, _, rfl⟩ | (simp [isSl] at h2)
  have hb := bd48 ⟨hiOf (ev (.tmp 121)), loOf (ev (.tmp 121)), tg16 (ev (.tmp 121)), []⟩ ao n c W
  dsimp only at hb
  rw [← h1, ← hy] at hb
  unfold execOp
  simp only [ho, Sem.run_bind, List.map_toArray, List.map_cons, List.map_nil, hb, Result.andThen_ok, Sem.run_pure]

theorem ex29 (ev : Operand → Value) (o : Oper) (W : World) (ho : o.op = .buildSlice 29 1 #[(0, .tmp 123)]) (h1 : ev (.tmp 123) = .agg (srcCells ⟨hiOf (ev (.tmp 123)), loOf (ev (.tmp 123)), tg16 (ev (.tmp 123)), []⟩ (v17 (ev (.tmp 123)))).toArray) :
    (execOp ev o).run Ybad.prog W = .ok (.value (.slice (some ⟨W.heap.size, 0, none⟩) 1 1)) (W.alloc (.cells (srcCells ⟨hiOf (ev (.tmp 123)), loOf (ev (.tmp 123)), tg16 (ev (.tmp 123)), []⟩ (v17 (ev (.tmp 123)))).toArray 48)) := by
  have hb := bs29 ⟨hiOf (ev (.tmp 123)), loOf (ev (.tmp 123)), tg16 (ev (.tmp 123)), []⟩ (v17 (ev (.tmp 123))) W
  rw [← h1] at hb
  unfold execOp
  simp only [ho, Sem.run_bind, List.map_toArray, List.map_cons, List.map_nil, hb, Result.andThen_ok, Sem.run_pure]

theorem ex46' (ev : Operand → Value) (d : Option Tmp) (ty : TypeId) (ps : String) (af : Array Edge) (g : Option (Nat × Bool)) (W : World) (h1 : ev (.tmp 117) = .agg (uuCells (hiOf (ev (.tmp 117))) (loOf (ev (.tmp 117)))).toArray) (h2 : ev (.tmp 120) = .string (tgOf (ev (.tmp 120)))) :
    (execOp ev { dst := d, op := .build 46 #[(0, .tmp 117), (1, .tmp 120)], type := ty, pos := ps, after := af, guard := g }).run Ybad.prog W = .ok (.value (.agg (tsCells (hiOf (ev (.tmp 117))) (loOf (ev (.tmp 117))) (tgOf (ev (.tmp 120)))).toArray)) W := ex46 ev _ W rfl h1 h2
theorem ex48' (ev : Operand → Value) (d : Option Tmp) (ty : TypeId) (ps : String) (af : Array Edge) (g : Option (Nat × Bool)) (W : World) (h1 : ev (.tmp 121) = .agg (tsCells (hiOf (ev (.tmp 121))) (loOf (ev (.tmp 121))) (tg16 (ev (.tmp 121)))).toArray) (h2 : isSl (ev (.tmp 122)) = true) :
    (execOp ev { dst := d, op := .build 48 #[(0, .tmp 121), (1, .tmp 122)], type := ty, pos := ps, after := af, guard := g }).run Ybad.prog W = .ok (.value (.agg (srcCells ⟨hiOf (ev (.tmp 121)), loOf (ev (.tmp 121)), tg16 (ev (.tmp 121)), []⟩ (ev (.tmp 122))).toArray)) W := ex48 ev _ W rfl h1 h2
theorem ex29' (ev : Operand → Value) (d : Option Tmp) (ty : TypeId) (ps : String) (af : Array Edge) (g : Option (Nat × Bool)) (W : World) (h1 : ev (.tmp 123) = .agg (srcCells ⟨hiOf (ev (.tmp 123)), loOf (ev (.tmp 123)), tg16 (ev (.tmp 123)), []⟩ (v17 (ev (.tmp 123)))).toArray) :
    (execOp ev { dst := d, op := .buildSlice 29 1 #[(0, .tmp 123)], type := ty, pos := ps, after := af, guard := g }).run Ybad.prog W = .ok (.value (.slice (some ⟨W.heap.size, 0, none⟩) 1 1)) (W.alloc (.cells (srcCells ⟨hiOf (ev (.tmp 123)), loOf (ev (.tmp 123)), tg16 (ev (.tmp 123)), []⟩ (v17 (ev (.tmp 123)))).toArray 48)) := ex29 ev _ W rfl h1
attribute [local go_sem ↓] ex46' ex48' ex29'
attribute [local go_sem] hiOf_uu loOf_uu tgOf_s hiOf_ts loOf_ts tg16_ts isSl_s hiOf_src loOf_src tg16_src v17_src

/-- 'append' onto a row of the call's own, as one step of a region that draws -/
theorem step_append_own {P : Program} {ops : Array Oper} {o : Oper} {a : Act} {w : World} {K : Act → World → Prop} {Q : Exit → Act → World → Prop} {E : Prop}
    (hg : o.guard = none) (s x : Operand) (t : TypeId) (hop : o.op = Op.call { callee := Callee.builtin Builtin.append, args := #[s, x], argTypes := #[t, t] })
    (base : Nat) (e : TypeId) (i : TypeInfo) (z : Value) (size bytes : Nat) (h1 : P.underlying t = some (.slice e)) (h2 : P.info? e = some i) (h3 : i.zero = some z) (h4 : i.size = size) (h5 : i.bytes = bytes) (h6 : z.cells.size = size) (h7 : 0 < size)
    (v : Value) (n : Nat) (xs : List Value) (hs : a.eval s = v) (hown : w.ownsRow base e size v n xs)
    (ad : Addr) (m c : Nat) (news : List Value) (hx : a.eval x = .slice (some ad) m c) (hn : news.length = m * size) (hc : ∀ j u, news[j]? = some u → w.cell? (ad.add j) = some u) (h1c : ∀ u ∈ news, u.oneCell' = true)
    (b1 : n + m ≤ maxLen) (b2 : (n + m) * bytes ≤ 140737488355328) (hbase : base ≤ w.heap.size)
    (hK : ∀ v' w', w'.ownsRow base e size v' (n + m) (xs ++ news) → w.grownBy w' v.ownBlock → K (a.put o.dst v') w') :
    if Region.wanted o (yielded ops a.tmps) = true then Oper.wp P o a w K Q else E := by
  have hw : Region.wanted o (yielded ops a.tmps) = true := by simp [Region.wanted, hg]
  rw [if_pos hw]
  obtain ⟨v', w', hrun, r1, r2, _⟩ := run_append_own (P := P) w base t o.type e i z size bytes h1 h2 h3 h4 h5 h6 h7 v n xs hown ad m c news hn hc h1c b1 b2 hbase
  unfold Oper.wp
  simp [execOp, hop, resolve, invoke, builtin, hs, hx, hrun, Result.andThen]
  exact hK v' w' r1 r2

theorem range_grown {w w' : World} {B size : Nat} {e T : TypeId} {v : Value} {n : Nat} {xs : List Value} {b o : Nat} {cs : Array Value} {fr : Nat × Nat} {us : List Value} (hown : w.ownsRow B e size v n xs) (hg : w.grownBy w' v.ownBlock) (hb : w.heap[b]? = some (.cells cs T fr)) (hTe : T ≠ e) (h : w.rangeAt b o us) : w'.rangeAt b o us := fun j u hu => by
  have h1 := keep_grown hown hg hb hTe
  rw [World.cell?_of_block (w := w) (w' := w') (a := ⟨b, o + j, none⟩) (h1.trans hb.symm)]
  exact h j u hu

/-- what is to be appended lies in a new block -/
theorem src_at (w : World) (s : Src) (v : Value) : ∀ (j : Nat) (u : Value), (srcCells s v)[j]? = some u → (w.alloc (.cells (srcCells s v).toArray 48)).cell? ((⟨w.heap.size, 0, none⟩ : Addr).add j) = some u := by
  intro j u hj
  rw [Lib.add_plain, Nat.zero_add, World.cell?_alloc_at _ _ _ _ rfl]
  simpa using hj
theorem src_one (s : Src) (ao : Option Addr) (n c : Nat) : ∀ u ∈ srcCells s (.slice ao n c), u.oneCell' = true := by
  have := srcCells_one s ao n c
  simpa using this

set_option maxRecDepth 100000 in
set_option maxHeartbeats 4000000 in
theorem build_any (base : Int) (v : Value) (sts : List (Nat × Value × Nat)) (w : World) (hst : StAt w v sts) (hlen : sts.length ≤ 1024) (hlim : ∀ st ∈ sts, st.2.2 ≤ 1024) :
    Calls Ybad.prog 6 #[.int .i64 base, v] w fun e w' => ∃ S srcs, e = .returned (.pointer (some ⟨S, 0, none⟩)) ∧ SetAt w'.heap.size w' S srcs ∧ (∀ s ∈ srcs, s.Ok) ∧ srcs.length ≤ 1024 ∧ Below w.heap.size w w' := by
  obtain ⟨ao, cap, rfl, hsts⟩ := hst
  have HST := Lib.hid hsts
  have HLIM := Lib.hid hlim
  clear hsts hlim
  go_enter Ybad.func6, Ybad.ntmps6
  go_wp2_with fail
  obtain ⟨b, hb, hb2⟩ := base_at base
  rw [hb]
  have HB := Lib.hid hb
  clear hb
  go_loopw [7, 8, 9, 11, 12, 13, 14, 15, 16, 17, 18, 19, 20, 28] (fun s7 s8 s9 _ _ _ _ _ _ _ _ _ _ s28 wr => ∃ (k : Nat) (qs : List (Src × Value)) (uid : Nat) (ti : Int), k ≤ sts.length ∧ qs.length = k ∧ s28 = .int .i64 k ∧ s8 = .int .u16 uid ∧ uid ≤ 65535 ∧ s9 = .int .i64 ti ∧ -1 ≤ ti ∧ ti ≤ 5 ∧ OwnSrc w.heap.size wr s7 qs ∧ Below w.heap.size w wr ∧ wr.heap[w.heap.size]? = some (.cells tagArr 36 (0, 0)))
    (fun _ _ _ _ _ _ _ _ _ _ _ _ _ s28 _ => sts.length - (intOf s28).toNat)
  case atStart => exact ⟨0, [], 0, -1, by omega, rfl, rfl, rfl, by omega, rfl, by omega, by omega, OwnSrc.nil _ _, (Below.refl _ _).alloc (Nat.le_refl _) _, heap_alloc_new w _⟩
  case round =>
    obtain ⟨k, qs, uid, ti, hk, hqs, rfl, rfl, huid, rfl, ht0, ht1, how, hbel, htag⟩ := hrel
    have HOW := Lib.hid how
    have HTG := Lib.hid htag
    obtain ⟨a7, c7, rfl⟩ : ∃ a7 c7, u7 = .slice a7 k c7 := by
      rcases how.1.2 with ⟨h1, h2⟩ | ⟨g, cap, cur, hv, _⟩
      · exact ⟨none, 0, by rw [h1, ← hqs, h2]⟩
      · exact ⟨_, _, by rw [hv, hqs]⟩
    clear how htag
    have hszr := hbel.size
    by_cases hlt : k < sts.length
    · obtain ⟨st, hs⟩ : ∃ st, sts[k]? = some st := ⟨_, List.getElem?_eq_getElem hlt⟩
      obtain ⟨g, o, rfl, hg, hc1, hadv, hc2, hby⟩ := HST.out k st hs
      have hm := HLIM.out st (List.mem_of_getElem? hs)
      have d1 := (hbel.cell (p := ⟨g, o + k * 2, none⟩) hg).trans hc1
      have d2 := (hbel.cell (p := ⟨g, o + k * 2 + 1, none⟩) hg).trans hc2
      obtain ⟨adv, sv, m⟩ := st
      obtain ⟨aI, cI, hsv, hbyc⟩ := hby
      dsimp only at *
      subst hsv
      have HBY := Lib.hid hbyc
      clear hbyc hc1 hc2 hs
      go_upto_region 10 with fail
      obtain ⟨t1, hT⟩ : ∃ t1 : Int, ti + (1 + (adv : Int) % 3) = t1 := ⟨_, rfl⟩
      rw [hT]
      have hT0 : 0 ≤ t1 := by omega
      have hT1 : t1 ≤ 8 := by omega
      clear hT
      have he0 : wr.cell? ⟨g, o + k * 2, none⟩ = wr.cell? ⟨g, o + k * 2, none⟩ := rfl
      clear he0 d1 d2
      obtain ⟨gb, hgb⟩ : ∃ gb : Bool, (decide (6 ≤ t1) || decide (k = 0)) = gb := ⟨_, rfl⟩
      go_cut [45] (fun s45 wx => s45 = .bool gb ∧ wx = wr.alloc (.cells #[.int .u8 adv, .slice aI m cI] 35))
      case first =>
        by_cases h6 : 6 ≤ t1
        · have h6' : decide (6 ≤ t1) = true := by simpa using h6
          have e : gb = true := by rw [← hgb, h6']; rfl
          subst e
          clear hgb h6'
          go_wp2_with fail
          go_meet
          case rel => exact ⟨rfl, rfl⟩
        · by_cases hk0 : k = 0
          · have e : gb = true := by rw [← hgb]; simp [hk0]
            subst e
            clear hgb
            have hk0' : ((k : Int) == 0) = true := by simp; omega
            clear hk0
            go_wp2_with fail
            go_meet
            case rel => exact ⟨rfl, rfl⟩
          · have e : gb = false := by rw [← hgb]; simp [hk0]; omega
            subst e
            clear hgb
            have hk0' : ((k : Int) == 0) = false := by simp; omega
            go_wp2_with fail
            go_meet
            case rel => exact ⟨rfl, rfl⟩
      case rest =>
        obtain ⟨hs45, hwx⟩ := hcut
        subst hs45 hwx
        go_upto_if 45 with fail
        go_cut [8, 9] (fun s8 s9 wx => ∃ (uid' : Nat) (ti' : Nat), s8 = .int .u16 uid' ∧ uid' ≤ 65535 ∧ s9 = .int .i64 ti' ∧ ti' ≤ 5 ∧ wx = wr.alloc (.cells #[.int .u8 adv, .slice aI m cI] 35))
        case first =>
          cases gb
          · have h6 : t1 ≤ 5 := by
              have := hgb
              simp at this
              omega
            clear hgb
            go_wp2_with fail
            go_meet
            case rel => exact ⟨uid, t1.toNat, rfl, huid, by rw [show ((t1.toNat : Nat) : Int) = t1 by omega], by omega, rfl⟩
          · clear hgb
            by_cases hk0 : 0 < k
            · go_wp2_with fail
              go_meet
              case rel => exact ⟨(uid + 1) % 65536, adv % 2, by go_num, by omega, by go_num, by omega, rfl⟩
            · go_wp2_with fail
              go_meet
              case rel => exact ⟨uid, adv % 2, rfl, huid, by go_num, by omega, rfl⟩
        case rest =>
          obtain ⟨uid', ti', hs8, huid', hs9, hti', hwx⟩ := hcut
          subst hs8 hs9 hwx
          go_wp2_with fail
          obtain ⟨wu, hwu⟩ : ∃ wu, ((wr.alloc (.cells #[.int .u8 adv, .slice aI m cI] 35)).alloc (.cells #[.int .u8 ((uid' : Int) / 256), .int .u8 ((uid' : Int) % 256), .int .u8 0, .int .u8 0, .int .u8 0, .int .u8 171, .int .u8 0, .int .u8 0, .int .u8 0, .int .u8 0, .int .u8 0, .int .u8 0, .int .u8 0, .int .u8 0, .int .u8 0, .int .u8 0] 40)) = wu := ⟨_, rfl⟩
          have HU : Hid (BoxAt wu (wr.heap.size + 1) (uuCells ((uid' : Int) / 256) ((uid' : Int) % 256))) := by
            have := BoxAt.new (wr.alloc (.cells #[.int .u8 adv, .slice aI m cI] 35)) #[.int .u8 ((uid' : Int) / 256), .int .u8 ((uid' : Int) % 256), .int .u8 0, .int .u8 0, .int .u8 0, .int .u8 171, .int .u8 0, .int .u8 0, .int .u8 0, .int .u8 0, .int .u8 0, .int .u8 0, .int .u8 0, .int .u8 0, .int .u8 0, .int .u8 0] 40 (by decide)
            rw [hwu] at this
            rw [World.size_alloc] at this
            exact this
          have HU2 : Hid (∃ C, wu.heap[wr.heap.size + 1]? = some (.cells C 40 (0, 0))) := by
            have := heap_alloc_new (wr.alloc (.cells #[.int .u8 adv, .slice aI m cI] 35)) (.cells #[.int .u8 ((uid' : Int) / 256), .int .u8 ((uid' : Int) % 256), .int .u8 0, .int .u8 0, .int .u8 0, .int .u8 171, .int .u8 0, .int .u8 0, .int .u8 0, .int .u8 0, .int .u8 0, .int .u8 0, .int .u8 0, .int .u8 0, .int .u8 0, .int .u8 0] 40)
            rw [hwu, World.size_alloc] at this
            exact ⟨_, this⟩
          have HV : Hid (BoxAt wu wr.heap.size [.int .u8 adv, .slice aI m cI]) := by
            rw [← hwu]
            exact (BoxAt.new wr _ 35 (by decide)).alloc _
          have hbu : Below wr.heap.size wr wu := by
            rw [← hwu]
            exact ((Below.refl _ _).alloc (Nat.le_refl _) _).alloc (by simp) _
          have hsu : wu.heap.size = wr.heap.size + 2 := by rw [← hwu]; simp
          rw [hwu]
          clear hwu
          obtain ⟨B', hB'⟩ : ∃ B', wu.heap.size = B' := ⟨_, rfl⟩
          have HB' : Hid (wu.heap.size = B') := hB'
          have hBr : wr.heap.size + 1 < B' := by omega
          clear hsu hB'
          go_loopw [13, 14, 15, 16, 17, 18, 19] (fun s13 s14 s15 _ _ _ _ wi => ∃ (i : Nat) (ivs : List (Int × Int)) (last : Int), i = 2 * ivs.length ∧ i ≤ m + 1 ∧ s15 = .int .i64 i ∧ s14 = .int .i64 last ∧ (b : Int) - 1 ≤ last ∧ last ≤ (b : Int) - 1 + 256 * i ∧ wi.ownsRow B' 44 2 s13 ivs.length (ivs.flatMap ivCells) ∧ Below B' wu wi ∧ B' ≤ wi.heap.size ∧ (∀ p ∈ ivs, 1 ≤ p.1 ∧ p.1 ≤ p.2 ∧ p.2 ≤ 4700000000000000000))
            (fun _ _ s15 _ _ _ _ _ => m + 2 - (intOf s15).toNat)
          case atStart => exact ⟨0, [], _, rfl, by omega, rfl, rfl, by omega, by omega, ⟨rfl, .inl ⟨rfl, rfl⟩⟩, Below.refl _ _, by rw [HB'.out]; exact Nat.le_refl _, by simp⟩
          case round =>
            obtain ⟨i, ivs, last, hi, him, rfl, rfl, hl0, hl1, hown, hbi, hszi, hoks⟩ := hrel
            obtain ⟨wi, rfl⟩ : ∃ wi, wi = wr := ⟨_, rfl⟩
            have HI := Lib.hid hi
            have HOWN := Lib.hid hown
            have HOKS := Lib.hid hoks
            obtain ⟨a13, c13, rfl⟩ : ∃ a13 c13, u13 = .slice a13 ivs.length c13 := by
              rcases hown.2 with ⟨h1, h2⟩ | ⟨g, cap, cur, hv, _⟩
              · exact ⟨none, 0, by rw [h1, h2]⟩
              · exact ⟨_, _, hv⟩
            have e1 : wi.cell? ⟨wr.heap.size, 1, none⟩ = some (.slice aI m cI) := (hbi.cell (p := ⟨wr.heap.size, 1, none⟩) (by show wr.heap.size < B'; omega)).trans (HV.out.cell rfl)
            obtain ⟨i44, hi44, hz0, hz1, hz2⟩ := info_parts Ybad.info44
            have HI44 := Lib.hid hi44
            clear hi hown hoks hi44
            by_cases hilt : i < m
            · have hall : Below w.heap.size w wi := (hbel.trans (hbu.mono hszr)).trans (hbi.mono (by omega))
              obtain ⟨gI, oI, rfl, hgI, q, hq, hq2⟩ := HBY.out i hilt
              have f1 : wi.cell? ⟨gI, oI + i, none⟩ = some (.int .u8 q) := (hall.cell (p := ⟨gI, oI + i, none⟩) hgI).trans hq
              clear hq
              go_upto_if 83 with fail
              go_cut [17] (fun s17 wx => ∃ ln : Nat, ln ≤ 255 ∧ s17 = .int .i64 ln ∧ wx = wi)
              case first =>
                by_cases h1 : i + 1 < m
                · obtain ⟨gJ, oJ, hJ, hgJ, q', hq', hq2'⟩ := HBY.out (i + 1) h1
                  obtain ⟨rfl, rfl⟩ : gI = gJ ∧ oI = oJ := by simpa using hJ
                  have f2 : wi.cell? ⟨gI, oI + (i + 1), none⟩ = some (.int .u8 q') := (hall.cell (p := ⟨gI, oI + (i + 1), none⟩) hgI).trans hq'
                  have h1' : (i : Int) + 1 < (m : Int) := by omega
                  clear hJ hq'
                  go_wp2_with fail
                  go_meet
                  case rel => exact ⟨q', hq2', rfl, rfl⟩
                · have h1' : ¬ (i : Int) + 1 < (m : Int) := by omega
                  go_wp2_with fail
                  go_meet
                  case rel => exact ⟨0, by omega, rfl, rfl⟩
              case rest =>
                obtain ⟨ln, hln, hs17, hwx⟩ := hcut
                subst hs17 hwx
                go_wp2_with (at_builtin; refine wpList_append_own _ rfl _ _ 42 rfl B' 44 i44 (.agg #[.int .i64 0, .int .i64 0]) 2 16 Ybad.underlying42 HI44.out hz0 hz1 hz2 rfl (by decide) _ _ _ rfl (HOWN.out.alloc _) ⟨wc.heap.size, 0, none⟩ 1 1 [.int .i64 (last + 2 + q), .int .i64 (last + 2 + q + ln)] rfl rfl (iv_at _ _ _) (iv_one _ _) ?c3 ?c4 ?c5 ?_)
                case c3 => unfold maxLen; have := HI.out; omega
                case c4 => have := HI.out; omega
                case c5 => simp; omega
                intro v' w3 hown' hgrow _
                have HW3 : Hid (w3.ownsRow B' 44 2 v' (ivs ++ [(last + 2 + (q : Int), last + 2 + (q : Int) + (ln : Int))]).length ((ivs ++ [(last + 2 + (q : Int), last + 2 + (q : Int) + (ln : Int))]).flatMap ivCells)) := flat_push ivs _ _ hown'
                have HB3 : Hid (Below B' wu w3) := (hbi.alloc hszi _).grown hgrow (by simp; omega) (fun k hk => (HOWN.out.lt k hk).1)
                have hsz3 : B' ≤ w3.heap.size := by have := hgrow.size; simp at this; omega
                clear hown' hgrow
                go_wp2_with fail
                go_roundw
                case rel =>
                  refine ⟨i + 2, _, _, ?_, by omega, by go_num, rfl, by omega, by omega, HW3.out, HB3.out, hsz3, ?_⟩
                  · have := HI.out; rw [List.length_append]; simp; omega
                  · intro p hp
                    rcases List.mem_append.1 hp with hp | hp
                    · exact HOKS.out p hp
                    · simp at hp
                      subst hp
                      exact ⟨by dsimp only; omega, by dsimp only; omega, by dsimp only; omega⟩
                case measure => simp [intOf]; omega
            · have hivl : ivs.length ≤ 600 := by have := HI.out; omega
              go_upto_if 107 with fail
              clear e1
              go_cut [13, 20] (fun s13 _ wx => ∃ ivs' : List (Int × Int), ivs' ≠ [] ∧ ivs'.length ≤ 600 ∧ wx.ownsRow B' 44 2 s13 ivs'.length (ivs'.flatMap ivCells) ∧ Below B' wu wx ∧ B' ≤ wx.heap.size ∧ (∀ p ∈ ivs', 1 ≤ p.1 ∧ p.1 ≤ p.2 ∧ p.2 ≤ 4700000000000000000))
              case first =>
                by_cases h0 : ivs.length = 0
                · have hz : ivs = [] := List.eq_nil_of_length_eq_zero h0
                  have h0' : ((ivs.length : Int) == 0) = true := by rw [beq_iff_eq]; omega
                  have HZ := Lib.hid hz
                  clear hz h0
                  go_wp2_with (at_builtin; refine wpList_append_own _ rfl _ _ 42 rfl B' 44 i44 (.agg #[.int .i64 0, .int .i64 0]) 2 16 Ybad.underlying42 HI44.out hz0 hz1 hz2 rfl (by decide) _ _ _ rfl (HOWN.out.alloc _) ⟨wi.heap.size, 0, none⟩ 1 1 [.int .i64 (last + 2), .int .i64 (last + 2)] rfl rfl (iv_at _ _ _) (iv_one _ _) ?c3 ?c4 ?c5 ?_)
                  case c3 => unfold maxLen; omega
                  case c4 => omega
                  case c5 => simp; omega
                  intro v' w3 hown' hgrow _
                  have HW3 : Hid (w3.ownsRow B' 44 2 v' (ivs ++ [(last + 2, last + 2)]).length ((ivs ++ [(last + 2, last + 2)]).flatMap ivCells)) := flat_push ivs _ _ hown'
                  have HB3 : Hid (Below B' wu w3) := (hbi.alloc hszi _).grown hgrow (by simp; omega) (fun k hk => (HOWN.out.lt k hk).1)
                  have hsz3 : B' ≤ w3.heap.size := by have := hgrow.size; simp at this; omega
                  clear hown' hgrow
                  go_wp2_with fail
                  go_meet
                  case rel =>
                    refine ⟨ivs ++ [(last + 2, last + 2)], by simp, by rw [List.length_append]; simp; rw [HZ.out]; simp, HW3.out, HB3.out, hsz3, ?_⟩
                    intro p hp
                    rcases List.mem_append.1 hp with hp | hp
                    · exact HOKS.out p hp
                    · simp at hp
                      subst hp
                      exact ⟨by dsimp only; omega, by dsimp only; omega, by dsimp only; omega⟩
                · have h0' : ((ivs.length : Int) == 0) = false := by rw [beq_eq_false_iff_ne]; omega
                  have hz : ivs ≠ [] := fun e => h0 (by rw [e]; rfl)
                  clear h0
                  go_wp2_with fail
                  go_meet
                  case rel => exact ⟨ivs, hz, hivl, HOWN.out, hbi, hszi, HOKS.out⟩
              case rest =>
                obtain ⟨ivs', hne, hivl', hown', hbx, hszx, hoks'⟩ := hcut
                have HOX := Lib.hid hown'
                have HOKX := Lib.hid hoks'
                clear HOWN HOKS hivl hoks'
                obtain ⟨G, cG, rfl⟩ : ∃ G cG, u13 = .slice (some ⟨G, 0, none⟩) ivs'.length cG := by
                  rcases hown'.2 with ⟨h1, h2⟩ | ⟨g, cap, cur, hv, _⟩
                  · exact absurd (List.eq_nil_of_length_eq_zero h2) hne
                  · exact ⟨_, _, hv⟩
                clear hown'
                go_upto_region 34 with fail
                have hbwc : Below wr.heap.size wr wc := hbu.trans (hbx.mono (by omega))
                have hHOW : OwnSrc w.heap.size wc (.slice a7 k c7) qs := HOW.out.below hbwc
                have hIV : IvRow wc (.slice (some ⟨G, 0, none⟩) ivs'.length cG) ivs' := IvRow.of_own HOX.out hne
                have htgc : wc.heap[w.heap.size]? = some (.cells tagArr 36 (0, 0)) := (hbwc.block _ (lt_of_heap HTG.out)).trans HTG.out
                obtain ⟨tg, htg, htgs⟩ := tag_at ti' hti'
                have ctg : wc.cell? ⟨w.heap.size, ti', none⟩ = some (.string tg) := by simp [World.cell?, htgc, htg]
                have hr : wc.rangeAt (wr.heap.size + 1) 0 (uuCells ((uid' : Int) / 256) ((uid' : Int) % 256)) := fun j u hu => (hbx.cell (p := ⟨wr.heap.size + 1, 0 + j, none⟩) (by show wr.heap.size + 1 < B'; omega)).trans (HU.out.range j u hu)
                have HHOW := Lib.hid hHOW
                have HIVR := Lib.hid hIV
                have HTC := Lib.hid htgc
                obtain ⟨i48, hi48, hy0, hy1, hy2⟩ := info_parts Ybad.info48
                have HI48 := Lib.hid hi48
                clear hHOW hIV htgc htg hi48 HOX HTG HV HU
                have hu40 := Ybad.underlying40
                have hi40 := uu_size' ((uid' : Int) / 256) ((uid' : Int) % 256)
                have hl40 : (uuCells ((uid' : Int) / 256) ((uid' : Int) % 256)).length = 16 := rfl
                have ho40 := uu_one' ((uid' : Int) / 256) ((uid' : Int) % 256)
                have hix0 : (0 : Int) ≤ (ti' : Int) := by omega
                have hix1 : (ti' : Int) < 6 := by omega
                obtain ⟨sN, hsN⟩ : ∃ sN : Src, sN = ⟨(uid' : Int) / 256, (uid' : Int) % 256, tg, ivs'⟩ := ⟨_, rfl⟩
                have HSN := Lib.hid hsN
                have q1 : (uid' : Int) / 256 = sN.hi := by rw [hsN]
                have q2 : (uid' : Int) % 256 = sN.lo := by rw [hsN]
                have q3 : tg = sN.tag := by rw [hsN]
                clear hsN
                rw [q1, q2] at hr hi40 hl40 ho40
                rw [q3] at ctg
                clear q1 q2 q3
                have hszw : w.heap.size ≤ wc.heap.size := by omega
                have hltw : w.heap.size < wc.heap.size := lt_of_heap HTC.out
                obtain ⟨vi, hvi⟩ : ∃ vi, Value.slice (some ⟨G, 0, none⟩) ivs'.length cG = vi := ⟨_, rfl⟩
                have HBD : Hid (Below wc.heap.size wc (wc.alloc (.cells (srcCells ⟨sN.hi, sN.lo, sN.tag, []⟩ (.slice (some ⟨G, 0, none⟩) ivs'.length cG)).toArray 48)).drew) := ((Below.refl _ _).alloc (Nat.le_refl _) _).drew
                have HOWD := Lib.hid (HHOW.out.below HBD.out)
                have HIVD := Lib.hid (HIVR.out.below HBD.out)
                have HTCD := Lib.hid ((HBD.out.block _ hltw).trans HTC.out)
                obtain ⟨C40, hC40⟩ := HU2.out
                have hC40c : wc.heap[wr.heap.size + 1]? = some (.cells C40 40 (0, 0)) := (hbx.block _ (by omega)).trans hC40
                have HC40 := Lib.hid ((HBD.out.block _ (lt_of_heap hC40c)).trans hC40c)
                have ctgD : (wc.alloc (.cells (srcCells ⟨sN.hi, sN.lo, sN.tag, []⟩ (.slice (some ⟨G, 0, none⟩) ivs'.length cG)).toArray 48)).drew.cell? ⟨w.heap.size, ti', none⟩ = some (.string sN.tag) := (HBD.out.cell (p := ⟨w.heap.size, ti', none⟩) hltw).trans ctg
                have hrD : (wc.alloc (.cells (srcCells ⟨sN.hi, sN.lo, sN.tag, []⟩ (.slice (some ⟨G, 0, none⟩) ivs'.length cG)).toArray 48)).drew.rangeAt (wr.heap.size + 1) 0 (uuCells sN.hi sN.lo) := fun j u hu => (HBD.out.cell (p := ⟨wr.heap.size + 1, 0 + j, none⟩) (lt_of_heap hC40c)).trans (hr j u hu)
                have HBW : Hid (Below w.heap.size w wc) := hbel.trans (hbwc.mono hszr)
                clear hC40 hC40c HU2 hvi HBY HST HLIM hbi hbx hbwc hbu
                go_region_held3 (fun W => W.rangeAt (wr.heap.size + 1) 0 (uuCells sN.hi sN.lo) ∧ W.cell? ⟨w.heap.size, ti', none⟩ = some (.string sN.tag)) (first | assumption | exact ⟨hrD, ctgD⟩ | exact ⟨hr3, ctg3⟩ | go_keep_ranges)
                  ((refine step_append_own rfl (.tmp 116) (.tmp 124) 29 rfl w.heap.size 48 i48 zero48 18 56 Ybad.underlying29 HI48.out hy0 hy1 hy2 rfl (by decide) (.slice a7 k c7) qs.length (qs.flatMap qCells) (by rfl) HOWD.out.1 ⟨wc.heap.size, 0, none⟩ 1 1 (srcCells ⟨sN.hi, sN.lo, sN.tag, []⟩ (.slice (some ⟨G, 0, none⟩) ivs'.length cG)) (by rfl) rfl (fun j u hj => src_at wc _ _ j u hj) (src_one _ _ _ _) (by unfold maxLen; omega) (by omega) (by simp; omega) ?_; intro v' w3 hown' hgrow; have hr3 := range_grown HOWD.out.1 hgrow HC40.out (by decide) hrD; have htg3 := keep_grown HOWD.out.1 hgrow HTCD.out (by decide); have ctg3 : w3.cell? ⟨w.heap.size, ti', none⟩ = some (.string sN.tag) := by rw [World.cell?_of_block (w := (wc.alloc (.cells (srcCells ⟨sN.hi, sN.lo, sN.tag, []⟩ (.slice (some ⟨G, 0, none⟩) ivs'.length cG)).toArray 48)).drew) (w' := w3) (a := ⟨w.heap.size, ti', none⟩) (htg3.trans HTCD.out.symm)]; exact ctgD))
                have hsok : sN.Ok := by
                  have e := HSN.out
                  subst e
                  exact ⟨by dsimp only; omega, by dsimp only; omega, by dsimp only; omega, by dsimp only; omega, htgs, hivl', HOKX.out⟩
                have hivs : sN.ivs = ivs' := by rw [HSN.out]
                have HN3 := Lib.hid (HOWD.out.push sN hsok (.slice (some ⟨G, 0, none⟩) ivs'.length cG) (by rw [hivs]; exact HIVD.out) hgrow hown')
                have HB3 : Hid (Below w.heap.size w w3) := (HBW.out.trans (HBD.out.mono (by omega))).grown hgrow (by simp; omega) (fun k hk => (HOWD.out.1.lt k hk).1)
                have HT3 := Lib.hid htg3
                clear hown' hgrow hr3 ctg3 htg3 hr ctg hrD ctgD hsok hivs
                go_wp2_with fail
                go_roundw
                case rel =>
                  refine ⟨k + 1, _, uid', ti', by omega, ?_, by go_num, rfl, huid', rfl, by omega, by omega, HN3.out, HB3.out, HT3.out⟩
                  rw [List.length_append, hqs]; rfl
                case measure => simp [intOf]; omega
    · obtain rfl : k = sts.length := by omega
      go_wp2_with fail
      go_ret
      refine ⟨_, qs.map (·.1), rfl, ?_, ?_, ?_, hbel.alloc hszr _⟩
      · rw [World.size_alloc]
        exact SetAt.of_own HOW.out
      · intro s hs
        obtain ⟨q, hq, rfl⟩ := List.mem_map.1 hs
        exact HOW.out.2.1 q hq
      · rw [List.length_map, hqs]; exact hlen
end Go.Proofs.YbulkayguDoor
