import Derived.Test.YbulkayguDoorScr
namespace Go.Proofs.YbulkayguDoor
open Go Go.RowKit

set_option maxHeartbeats 2000000 in
set_option maxRecDepth 100000 in
theorem grow_room (scr d n : Nat) (w : World) (h : d + n ≤ 36) :
    Calls Ybad.prog 29 #[.slice (some ⟨scr, 0, none⟩) d 36, .int .i64 n] w fun e w' => e = .returned (.slice (some ⟨scr, 0, none⟩) d 36) ∧ w' = w := by
  go_enter Ybad.func29, Ybad.ntmps29
  go_wp2
  go_ret
  exact ⟨rfl, rfl⟩

theorem Scr.hex {w' : World} {scr : Nat} {f : Nat → Value} (hf : ∀ i, i < 36 → Byt (f i)) {od n : Nat} {l : List UInt8} (h : w'.rowIs scr 53 36 (Lib.Hx.row f od l n)) : Scr w' scr := by
  refine ⟨_, h, ?_⟩
  intro i hi
  unfold Lib.Hx.row
  split
  · exact ⟨_, rfl⟩
  · exact hf i hi

set_option maxHeartbeats 2000000 in
set_option maxRecDepth 100000 in
theorem appendEncode_scr (scr d ub os n cs : Nat) (xs : List Int) (w : World) (hs : Scr w scr) (hne : scr ≠ ub) (hx : xs.length = n) (hn1 : 1 ≤ n) (hd : d + n * 2 ≤ 36)
    (hr : ∀ i, i < n → 0 ≤ xs.getD i 0 ∧ xs.getD i 0 < 256) (hsrc : ∀ i, i < n → w.cell? ⟨ub, os + i, none⟩ = some (.int .u8 (xs.getD i 0))) :
    Calls Ybad.prog 22 #[.slice (some ⟨scr, 0, none⟩) d 36, .slice (some ⟨ub, os, none⟩) n cs] w fun e w' => e = .returned (.slice (some ⟨scr, 0, none⟩) (d + n * 2) 36) ∧ Scr w' scr ∧ w.grownBy w' (some scr) := by
  have HS := Lib.hid hs
  have HR := Lib.hid hr
  have HC := Lib.hid hsrc
  clear hs hr hsrc
  go_enter Ybad.func22, Ybad.ntmps22
  go_wp2_with fail
  go_at_call 28
  refine (Ybad.hex_EncodedLen n (by omega) (by omega) _).mono ?_
  rintro e w' ⟨rfl, rfl⟩
  go_wp2_with fail
  go_at_call 29
  rw [show (n : Int) * 2 = ((n * 2 : Nat) : Int) by omega]
  refine (grow_room scr d (n * 2) _ hd).mono ?_
  rintro e w' ⟨rfl, rfl⟩
  go_wp2_with fail
  obtain ⟨f, hrow, hf⟩ := HS.out
  refine (Ybad.hex_Encode_tag 53 scr d (n * 2) (36 - d) 36 f ub os n cs xs _ hx HR.out HC.out hrow (by omega) (by omega) hne (by omega)).mono ?_
  rintro e w2 ⟨rfl, h1, h2⟩
  have HH := Lib.hid (Scr.hex hf h1)
  have HG := Lib.hid h2
  clear h1 h2 hrow
  go_wp2_with fail
  go_ret
  exact ⟨rfl, HH.out, HG.out⟩

/-- the sizes of the groups lie where the program lays them -/
def Grp (w : World) : Prop := w.cell? ⟨0, 0, none⟩ = some (.int .i64 4) ∧ w.cell? ⟨0, 1, none⟩ = some (.int .i64 2) ∧ w.cell? ⟨0, 2, none⟩ = some (.int .i64 2) ∧ w.cell? ⟨0, 3, none⟩ = some (.int .i64 2) ∧ w.cell? ⟨0, 4, none⟩ = some (.int .i64 6)

theorem Grp.below {B : Nat} {w w' : World} (h : Grp w) (hB : 0 < B) (hb : Below B w w') : Grp w' :=
  ⟨(hb.cell (p := ⟨0, 0, none⟩) hB).trans h.1, (hb.cell (p := ⟨0, 1, none⟩) hB).trans h.2.1, (hb.cell (p := ⟨0, 2, none⟩) hB).trans h.2.2.1, (hb.cell (p := ⟨0, 3, none⟩) hB).trans h.2.2.2.1, (hb.cell (p := ⟨0, 4, none⟩) hB).trans h.2.2.2.2⟩

def uuCells (hi lo : Int) : List Value := [.int .u8 hi, .int .u8 lo, .int .u8 0, .int .u8 0, .int .u8 0, .int .u8 171, .int .u8 0, .int .u8 0, .int .u8 0, .int .u8 0, .int .u8 0, .int .u8 0, .int .u8 0, .int .u8 0, .int .u8 0, .int .u8 0]
def uuXs (hi lo : Int) : List Int := [hi, lo, 0, 0, 0, 171, 0, 0, 0, 0, 0, 0, 0, 0, 0, 0]

theorem uuCells_at (hi lo : Int) : ∀ i, i < 16 → (uuCells hi lo)[i]? = some (.int .u8 ((uuXs hi lo).getD i 0)) := by
  intro i h
  match i, h with
  | 0, _ => rfl
  | 1, _ => rfl
  | 2, _ => rfl
  | 3, _ => rfl
  | 4, _ => rfl
  | 5, _ => rfl
  | 6, _ => rfl
  | 7, _ => rfl
  | 8, _ => rfl
  | 9, _ => rfl
  | 10, _ => rfl
  | 11, _ => rfl
  | 12, _ => rfl
  | 13, _ => rfl
  | 14, _ => rfl
  | 15, _ => rfl
  | n + 16, h => exact absurd h (by omega)
theorem uuXs_byte (hi lo : Int) (hh : 0 ≤ hi ∧ hi < 256) (hl : 0 ≤ lo ∧ lo < 256) : ∀ i, i < 16 → 0 ≤ (uuXs hi lo).getD i 0 ∧ (uuXs hi lo).getD i 0 < 256 := by
  intro i h
  match i, h with
  | 0, _ => exact hh
  | 1, _ => exact hl
  | 2, _ => exact ⟨by simp [uuXs], by simp [uuXs]⟩
  | 3, _ => exact ⟨by simp [uuXs], by simp [uuXs]⟩
  | 4, _ => exact ⟨by simp [uuXs], by simp [uuXs]⟩
  | 5, _ => exact ⟨by simp [uuXs], by simp [uuXs]⟩
  | 6, _ => exact ⟨by simp [uuXs], by simp [uuXs]⟩
  | 7, _ => exact ⟨by simp [uuXs], by simp [uuXs]⟩
  | 8, _ => exact ⟨by simp [uuXs], by simp [uuXs]⟩
  | 9, _ => exact ⟨by simp [uuXs], by simp [uuXs]⟩
  | 10, _ => exact ⟨by simp [uuXs], by simp [uuXs]⟩
  | 11, _ => exact ⟨by simp [uuXs], by simp [uuXs]⟩
  | 12, _ => exact ⟨by simp [uuXs], by simp [uuXs]⟩
  | 13, _ => exact ⟨by simp [uuXs], by simp [uuXs]⟩
  | 14, _ => exact ⟨by simp [uuXs], by simp [uuXs]⟩
  | 15, _ => exact ⟨by simp [uuXs], by simp [uuXs]⟩
  | n + 16, h => exact absurd h (by omega)

/-- the loop's world: the scratch is there, the copy of the uuid is untouched -/
structure TxSt (w0 w : World) (scr ub : Nat) (hi lo : Int) : Prop where
  sc : Scr w scr
  grown : w0.grownBy w (some scr)
  ne : scr ≠ ub
  uu : ∀ j u, (uuCells hi lo)[j]? = some u → w.cell? ⟨ub, j, none⟩ = some u

theorem TxSt.step {w0 w w' : World} {scr ub : Nat} {hi lo : Int} (h : TxSt w0 w scr ub hi lo) (hs : Scr w' scr) (hg : w.grownBy w' (some scr)) : TxSt w0 w' scr ub hi lo :=
  ⟨hs, grown_trans h.grown hg, h.ne, fun j u hu => hg.cell (h.uu j u hu) (fun e => h.ne (by simpa using e.symm))⟩

theorem xs_at (hi lo : Int) (os n i : Nat) (h : i < n) : (((uuXs hi lo).drop os).take n).getD i 0 = (uuXs hi lo).getD (os + i) 0 := by
  simp [List.getD, h]

theorem enc_step (scr ub d os n cs : Nat) (hi lo : Int) (hh : 0 ≤ hi ∧ hi < 256) (hl : 0 ≤ lo ∧ lo < 256) (w0 w : World) (h : TxSt w0 w scr ub hi lo) (h1 : 1 ≤ n) (hn : os + n ≤ 16) (hd : d + n * 2 ≤ 36) :
    Calls Ybad.prog 22 #[.slice (some ⟨scr, 0, none⟩) d 36, .slice (some ⟨ub, os, none⟩) n cs] w fun e w' => e = .returned (.slice (some ⟨scr, 0, none⟩) (d + n * 2) 36) ∧ TxSt w0 w' scr ub hi lo := by
  refine (appendEncode_scr scr d ub os n cs (((uuXs hi lo).drop os).take n) w h.sc h.ne ?_ h1 hd ?_ ?_).mono ?_
  · have : (uuXs hi lo).length = 16 := rfl
    rw [List.length_take, List.length_drop, this]; omega
  · intro i hin
    rw [xs_at _ _ _ _ _ hin]
    exact uuXs_byte hi lo hh hl _ (by omega)
  · intro i hin
    rw [xs_at _ _ _ _ _ hin]
    exact h.uu _ _ (uuCells_at hi lo _ (by omega))
  · rintro e w' ⟨rfl, h2, h3⟩
    exact ⟨rfl, h.step h2 h3⟩

theorem wpList_dash {ops : Array Oper} {rest : List Oper} {op : Oper} {a : Act} {Q : Exit → Act → World → Prop} {w0 wr : World} {scr ub : Nat} {hi lo : Int} (HT : TxSt w0 wr scr ub hi lo) (hgd : op.guard = none) (s x : Operand)
    (ho : op.op = .call { callee := .builtin .append, args := #[s, x], argTypes := #[33, 33] }) (D : Nat) (hD : D < 36) (hs : a.eval s = .slice (some ⟨scr, 0, none⟩) D 36) (hx : a.eval x = .slice (some ⟨wr.heap.size, 0, none⟩) 1 1)
    (h : ∀ W1, TxSt w0 W1 scr ub hi lo → wpList Ybad.prog ops Q rest (a.put op.dst (.slice (some ⟨scr, 0, none⟩) (D + 1) 36)) W1) : wpList Ybad.prog ops Q (op :: rest) a (wr.alloc (.cells #[.int .u8 45] 5)) := by
  obtain ⟨f, h1, h2⟩ := HT.sc.alloc (.cells #[.int .u8 45] 5)
  refine wpList_append_room1 _ hgd s x 33 33 ho 5 (.int .u8 0) 1 Ybad.underlying33 Ybad.info5 scr 0 D 36 hs _ hx _ _ (Src.ofSlice _ Ybad.underlying33 ⟨wr.heap.size, 0, none⟩ 1 1 [.int .u8 45] rfl ?_ ?_) (by omega) ?_ ?_ (h _ ?_)
  · intro j u hj
    match j, hj with
    | 0, hj => simp at hj; subst hj; simp [Addr.add]
    | (j + 1), hj => simp at hj
  · intro u hu; simp at hu; subst hu; rfl
  · intro j hj
    rw [h1.cell (by simp at hj; omega)]; rfl
  · intro j hj
    exact h1.frozen _
  · refine HT.step (Scr.setCells _ _ _ ⟨f, h1, h2⟩ ?_) (grown_trans (World.grownBy_alloc _ _ _) (grown_setCells _ _ _ _))
    intro v hv
    simp at hv
    exact ⟨45, hv⟩

/-- what the groups' loop has written and read -/
def gSt (scr ub : Nat) : Nat → Value → Value → Value → Prop
  | 0, s1, s5, s10 => s10 = .int .i64 0 ∧ s1 = .slice (some ⟨scr, 0, none⟩) 0 36 ∧ s5 = .slice (some ⟨ub, 0, none⟩) 16 16
  | 1, s1, s5, s10 => s10 = .int .i64 1 ∧ s1 = .slice (some ⟨scr, 0, none⟩) 8 36 ∧ s5 = .slice (some ⟨ub, 4, none⟩) 12 12
  | 2, s1, s5, s10 => s10 = .int .i64 2 ∧ s1 = .slice (some ⟨scr, 0, none⟩) 13 36 ∧ s5 = .slice (some ⟨ub, 6, none⟩) 10 10
  | 3, s1, s5, s10 => s10 = .int .i64 3 ∧ s1 = .slice (some ⟨scr, 0, none⟩) 18 36 ∧ s5 = .slice (some ⟨ub, 8, none⟩) 8 8
  | 4, s1, s5, s10 => s10 = .int .i64 4 ∧ s1 = .slice (some ⟨scr, 0, none⟩) 23 36 ∧ s5 = .slice (some ⟨ub, 10, none⟩) 6 6
  | _, s1, _, s10 => s10 = .int .i64 5 ∧ s1 = .slice (some ⟨scr, 0, none⟩) 36 36

theorem grpIx0 (w : World) : (Instr.index 66 (.agg #[.int .i64 4, .int .i64 2, .int .i64 2, .int .i64 2, .int .i64 6]) (.int .i64 0)).run Ybad.prog w = .ok (.int .i64 4) w := by kernel_rfl
theorem grpIx1 (w : World) : (Instr.index 66 (.agg #[.int .i64 4, .int .i64 2, .int .i64 2, .int .i64 2, .int .i64 6]) (.int .i64 1)).run Ybad.prog w = .ok (.int .i64 2) w := by kernel_rfl
theorem grpIx2 (w : World) : (Instr.index 66 (.agg #[.int .i64 4, .int .i64 2, .int .i64 2, .int .i64 2, .int .i64 6]) (.int .i64 2)).run Ybad.prog w = .ok (.int .i64 2) w := by kernel_rfl
theorem grpIx3 (w : World) : (Instr.index 66 (.agg #[.int .i64 4, .int .i64 2, .int .i64 2, .int .i64 2, .int .i64 6]) (.int .i64 3)).run Ybad.prog w = .ok (.int .i64 2) w := by kernel_rfl
theorem grpIx4 (w : World) : (Instr.index 66 (.agg #[.int .i64 4, .int .i64 2, .int .i64 2, .int .i64 2, .int .i64 6]) (.int .i64 4)).run Ybad.prog w = .ok (.int .i64 6) w := by kernel_rfl

set_option maxHeartbeats 4000000 in
set_option maxRecDepth 100000 in
theorem appendText_scr (scr : Nat) (hi lo : Int) (w : World) (hs : Scr w scr) (hg : Grp w) (hh : 0 ≤ hi ∧ hi < 256) (hl : 0 ≤ lo ∧ lo < 256) :
    Calls Ybad.prog 13 #[.agg (uuCells hi lo).toArray, .slice (some ⟨scr, 0, none⟩) 0 36] w fun e w' => e = .returned (.slice (some ⟨scr, 0, none⟩) 36 36) ∧ Scr w' scr ∧ w.grownBy w' (some scr) := by
  obtain ⟨g0, g1, g2, g3, g4⟩ := hg
  have hlt := hs.lt
  have h00 : 0 < w.heap.size := by omega
  have HT0 : Hid (TxSt w (w.alloc (.cells (uuCells hi lo).toArray 40)) scr w.heap.size hi lo) :=
    ⟨hs.alloc _, World.grownBy_alloc _ _ _, by omega, fun j u hu => by rw [World.cell?_alloc_at _ _ _ _ rfl]; simpa using hu⟩
  clear hs
  unfold uuCells at *
  go_enter Ybad.func13, Ybad.ntmps13
  go_wp2_with fail
  clear g0 g1 g2 g3 g4
  go_loopw [1, 5, 6, 7, 10] (fun s1 s5 _ _ s10 wr => ∃ g : Nat, g ≤ 5 ∧ gSt scr w.heap.size g s1 s5 s10 ∧ TxSt w wr scr w.heap.size hi lo)
    (fun _ _ _ _ s10 _ => 5 - (intOf s10).toNat)
  case atStart => exact ⟨0, by omega, ⟨rfl, rfl, rfl⟩, HT0.out⟩
  case round =>
    obtain ⟨g, hg, hst, ht⟩ := hrel
    have HT := Lib.hid ht
    clear ht HT0
    have x0 := grpIx0
    have x1 := grpIx1
    have x2 := grpIx2
    have x3 := grpIx3
    have x4 := grpIx4
    match g, hg, hst with
    | 0, _, hst =>
      obtain ⟨rfl, rfl, rfl⟩ := hst
      go_wp2_with fail
      go_at_call 22
      refine (enc_step scr w.heap.size 0 0 4 16 hi lo hh hl w _ HT.out (by omega) (by omega) (by omega)).mono ?_
      rintro e w2 ⟨rfl, h2⟩
      have H2 := Lib.hid h2
      clear h2
      go_wp2_with fail
      go_roundw
      case rel => exact ⟨1, by omega, ⟨by go_num, by rfl, by rfl⟩, H2.out⟩
      case measure => simp [intOf]
    | 1, _, hst =>
      obtain ⟨rfl, rfl, rfl⟩ := hst
      go_wp2_with (at_builtin; refine wpList_dash HT.out rfl (.tmp 16) (.tmp 17) rfl 8 (by omega) rfl rfl ?_; intro W1 hW1; refine Hid.out ?_)
      have HW1 := Lib.hid hW1
      clear hW1 HT
      refine Lib.hid ?_
      go_wp2_with fail
      go_at_call 22
      refine (enc_step scr w.heap.size 9 4 2 12 hi lo hh hl w _ HW1.out (by omega) (by omega) (by omega)).mono ?_
      rintro e w2 ⟨rfl, h2⟩
      have H2 := Lib.hid h2
      clear h2
      go_wp2_with fail
      go_roundw
      case rel => exact ⟨2, by omega, ⟨by go_num, by rfl, by rfl⟩, H2.out⟩
      case measure => simp [intOf]
    | 2, _, hst =>
      obtain ⟨rfl, rfl, rfl⟩ := hst
      go_wp2_with (at_builtin; refine wpList_dash HT.out rfl (.tmp 16) (.tmp 17) rfl 13 (by omega) rfl rfl ?_; intro W1 hW1; refine Hid.out ?_)
      have HW1 := Lib.hid hW1
      clear hW1 HT
      refine Lib.hid ?_
      go_wp2_with fail
      go_at_call 22
      refine (enc_step scr w.heap.size 14 6 2 10 hi lo hh hl w _ HW1.out (by omega) (by omega) (by omega)).mono ?_
      rintro e w2 ⟨rfl, h2⟩
      have H2 := Lib.hid h2
      clear h2
      go_wp2_with fail
      go_roundw
      case rel => exact ⟨3, by omega, ⟨by go_num, by rfl, by rfl⟩, H2.out⟩
      case measure => simp [intOf]
    | 3, _, hst =>
      obtain ⟨rfl, rfl, rfl⟩ := hst
      go_wp2_with (at_builtin; refine wpList_dash HT.out rfl (.tmp 16) (.tmp 17) rfl 18 (by omega) rfl rfl ?_; intro W1 hW1; refine Hid.out ?_)
      have HW1 := Lib.hid hW1
      clear hW1 HT
      refine Lib.hid ?_
      go_wp2_with fail
      go_at_call 22
      refine (enc_step scr w.heap.size 19 8 2 8 hi lo hh hl w _ HW1.out (by omega) (by omega) (by omega)).mono ?_
      rintro e w2 ⟨rfl, h2⟩
      have H2 := Lib.hid h2
      clear h2
      go_wp2_with fail
      go_roundw
      case rel => exact ⟨4, by omega, ⟨by go_num, by rfl, by rfl⟩, H2.out⟩
      case measure => simp [intOf]
    | 4, _, hst =>
      obtain ⟨rfl, rfl, rfl⟩ := hst
      go_wp2_with (at_builtin; refine wpList_dash HT.out rfl (.tmp 16) (.tmp 17) rfl 23 (by omega) rfl rfl ?_; intro W1 hW1; refine Hid.out ?_)
      have HW1 := Lib.hid hW1
      clear hW1 HT
      refine Lib.hid ?_
      go_wp2_with fail
      go_at_call 22
      refine (enc_step scr w.heap.size 24 10 6 6 hi lo hh hl w _ HW1.out (by omega) (by omega) (by omega)).mono ?_
      rintro e w2 ⟨rfl, h2⟩
      have H2 := Lib.hid h2
      clear h2
      go_wp2_with fail
      go_roundw
      case rel => exact ⟨5, by omega, ⟨by go_num, by rfl⟩, H2.out⟩
      case measure => simp [intOf]
    | 5, _, hst =>
      obtain ⟨rfl, rfl⟩ := hst
      go_wp2_with fail
      go_ret
      exact ⟨rfl, HT.out.sc, HT.out.grown⟩
end Go.Proofs.YbulkayguDoor
