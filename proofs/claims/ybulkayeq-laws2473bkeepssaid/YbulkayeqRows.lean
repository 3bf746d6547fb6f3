/-
  No cell of these rows narrows 'for every input' (looked for: loops, veiled, ifaces, maps, wideKeys, modest, calm, conditions, laid).
  DERIVED. THE GIVEN ROWS OF THIS SEAT. 6 by the template 'for every input the law returns true; each argument reads behind the call as it read before'; 0 by the template 'total and deterministic' (their statements: YbulkayeqTotals.lean).
  GIVEN WITH THE SEED: the statements are not yours to turn. If you find one false, say at which input.
  Laid BY PROGRAM, IN A SANDBOX (cutbox-rows.mjs): the forced cells as the released guide's own fill.sh prints them over the translation 2495418183b29dbd… (all of the seat's roots in one cut). By AI agents, Wed Nov 11 2026. No macro, syntax, notation, axiom, sorry.
-/
import Derived.Test.YbulkayeqChecked
import GoSem.Claim
import GoSem.ClaimJoined
import GoSem.ClaimMapViews
import Derived.JoinedTies
import Derived.KernelRfl
namespace Go.Proofs.Ybulkayeq
/- THE CELL 'sum', in the pinned program and in every row, IS THE sha256 OF THE DUMP (.gsa) THAT YbulkayeqProg.lean LOADS. Nothing in Lean hashes anything: it is a label: what it is worth is what the hold of that sum in a sandbox is worth. -/
noncomputable def Yba.pinned : Pinned := { name := "ybulkayeq", sum := "2495418183b29dbd0b71fc9e3963ade6d9da565b5cb288b414b6a856bb36c760", checked := Yba.checked }
namespace Rows
def none {H : Type} : Left H := { results := [], args := [] }

/-- 'chronopath.LawS2473ABest': WHATEVER THE INPUT: true; the input reads as it did. -/
def lawS2473ABestSpec : ChangeSpec := { name := "lawS2473ABest", fn := fun _ => fun
  | [d] => { results := [.lit (.bool true)], args := [d] }
  | _ => none }
def lawS2473ABestRow : OpenClaim := { program := "ybulkayeq", sum := "2495418183b29dbd0b71fc9e3963ade6d9da565b5cb288b414b6a856bb36c760", func := "example.com/chronopath/chronopath.LawS2473ABest", spec := "lawS2473ABest", inPlace := ["internal/bytealg.abigen_runtime_cmpstring"], apart := false }
def LawS2473ABestSaid : Prop := lawS2473ABestRow.holds Yba.pinned (OpenSpec.ofChange lawS2473ABestSpec)

/-- ITS FALSE NEIGHBOUR: 'it returns false'. Refute it at one input. -/
def lawS2473ABestWrong : ChangeSpec := { name := "lawS2473ABest", fn := fun _ => fun
  | [d] => { results := [.lit (.bool false)], args := [d] }
  | _ => none }
def LawS2473ABestWrongFalsely : Prop := lawS2473ABestRow.holds Yba.pinned (OpenSpec.ofChange lawS2473ABestWrong)

/-- 'chronopath.LawS2473AComing': WHATEVER THE INPUT: true; the input reads as it did. -/
def lawS2473AComingSpec : ChangeSpec := { name := "lawS2473AComing", fn := fun _ => fun
  | [d] => { results := [.lit (.bool true)], args := [d] }
  | _ => none }
def lawS2473AComingRow : OpenClaim := { program := "ybulkayeq", sum := "2495418183b29dbd0b71fc9e3963ade6d9da565b5cb288b414b6a856bb36c760", func := "example.com/chronopath/chronopath.LawS2473AComing", spec := "lawS2473AComing", inPlace := ["internal/bytealg.abigen_runtime_cmpstring"], apart := false }
def LawS2473AComingSaid : Prop := lawS2473AComingRow.holds Yba.pinned (OpenSpec.ofChange lawS2473AComingSpec)

/-- ITS FALSE NEIGHBOUR: 'it returns false'. Refute it at one input. -/
def lawS2473AComingWrong : ChangeSpec := { name := "lawS2473AComing", fn := fun _ => fun
  | [d] => { results := [.lit (.bool false)], args := [d] }
  | _ => none }
def LawS2473AComingWrongFalsely : Prop := lawS2473AComingRow.holds Yba.pinned (OpenSpec.ofChange lawS2473AComingWrong)

/-- 'chronopath.LawS2473BNumbers': WHATEVER THE INPUT: true; the input reads as it did. -/
def lawS2473BNumbersSpec : ChangeSpec := { name := "lawS2473BNumbers", fn := fun _ => fun
  | [d1, d2] => { results := [.lit (.bool true)], args := [d1, d2] }
  | _ => none }
def lawS2473BNumbersRow : OpenClaim := { program := "ybulkayeq", sum := "2495418183b29dbd0b71fc9e3963ade6d9da565b5cb288b414b6a856bb36c760", func := "example.com/chronopath/chronopath.LawS2473BNumbers", spec := "lawS2473BNumbers", apart := false }
def LawS2473BNumbersSaid : Prop := lawS2473BNumbersRow.holds Yba.pinned (OpenSpec.ofChange lawS2473BNumbersSpec)

/-- ITS FALSE NEIGHBOUR: 'it returns false'. Refute it at one input. -/
def lawS2473BNumbersWrong : ChangeSpec := { name := "lawS2473BNumbers", fn := fun _ => fun
  | [d1, d2] => { results := [.lit (.bool false)], args := [d1, d2] }
  | _ => none }
def LawS2473BNumbersWrongFalsely : Prop := lawS2473BNumbersRow.holds Yba.pinned (OpenSpec.ofChange lawS2473BNumbersWrong)

/-- 'chronopath.LawS2473BKeeps': WHATEVER THE INPUT: true; the input reads as it did. -/
def lawS2473BKeepsSpec : ChangeSpec := { name := "lawS2473BKeeps", fn := fun _ => fun
  | [d1, d2, d3] => { results := [.lit (.bool true)], args := [d1, d2, d3] }
  | _ => none }
def lawS2473BKeepsRow : OpenClaim := { program := "ybulkayeq", sum := "2495418183b29dbd0b71fc9e3963ade6d9da565b5cb288b414b6a856bb36c760", func := "example.com/chronopath/chronopath.LawS2473BKeeps", spec := "lawS2473BKeeps", apart := false }
def LawS2473BKeepsSaid : Prop := lawS2473BKeepsRow.holds Yba.pinned (OpenSpec.ofChange lawS2473BKeepsSpec)

/-- ITS FALSE NEIGHBOUR: 'it returns false'. Refute it at one input. -/
def lawS2473BKeepsWrong : ChangeSpec := { name := "lawS2473BKeeps", fn := fun _ => fun
  | [d1, d2, d3] => { results := [.lit (.bool false)], args := [d1, d2, d3] }
  | _ => none }
def LawS2473BKeepsWrongFalsely : Prop := lawS2473BKeepsRow.holds Yba.pinned (OpenSpec.ofChange lawS2473BKeepsWrong)

/-- 'gtfs.LawS2473CModel': WHATEVER THE INPUT: true; the input reads as it did. -/
def lawS2473CModelSpec : ChangeSpec := { name := "lawS2473CModel", fn := fun _ => fun
  | [d1, d2, d3, d4, d5, d6] => { results := [.lit (.bool true)], args := [d1, d2, d3, d4, d5, d6] }
  | _ => none }
def lawS2473CModelRow : OpenClaim := { program := "ybulkayeq", sum := "2495418183b29dbd0b71fc9e3963ade6d9da565b5cb288b414b6a856bb36c760", func := "example.com/chronopath/chronopath/gtfs.LawS2473CModel", spec := "lawS2473CModel", unfollowed := true, recurses := true, apart := false }
def LawS2473CModelSaid : Prop := lawS2473CModelRow.holds Yba.pinned (OpenSpec.ofChange lawS2473CModelSpec)

/-- ITS FALSE NEIGHBOUR: 'it returns false'. Refute it at one input. -/
def lawS2473CModelWrong : ChangeSpec := { name := "lawS2473CModel", fn := fun _ => fun
  | [d1, d2, d3, d4, d5, d6] => { results := [.lit (.bool false)], args := [d1, d2, d3, d4, d5, d6] }
  | _ => none }
def LawS2473CModelWrongFalsely : Prop := lawS2473CModelRow.holds Yba.pinned (OpenSpec.ofChange lawS2473CModelWrong)

/-- 'gtfs.LawS2473CForbidEarlier': WHATEVER THE INPUT: true; the input reads as it did. -/
def lawS2473CForbidEarlierSpec : ChangeSpec := { name := "lawS2473CForbidEarlier", fn := fun _ => fun
  | [d1, d2, d3, d4, d5, d6] => { results := [.lit (.bool true)], args := [d1, d2, d3, d4, d5, d6] }
  | _ => none }
def lawS2473CForbidEarlierRow : OpenClaim := { program := "ybulkayeq", sum := "2495418183b29dbd0b71fc9e3963ade6d9da565b5cb288b414b6a856bb36c760", func := "example.com/chronopath/chronopath/gtfs.LawS2473CForbidEarlier", spec := "lawS2473CForbidEarlier", unfollowed := true, recurses := true, apart := false }
def LawS2473CForbidEarlierSaid : Prop := lawS2473CForbidEarlierRow.holds Yba.pinned (OpenSpec.ofChange lawS2473CForbidEarlierSpec)

/-- ITS FALSE NEIGHBOUR: 'it returns false'. Refute it at one input. -/
def lawS2473CForbidEarlierWrong : ChangeSpec := { name := "lawS2473CForbidEarlier", fn := fun _ => fun
  | [d1, d2, d3, d4, d5, d6] => { results := [.lit (.bool false)], args := [d1, d2, d3, d4, d5, d6] }
  | _ => none }
def LawS2473CForbidEarlierWrongFalsely : Prop := lawS2473CForbidEarlierRow.holds Yba.pinned (OpenSpec.ofChange lawS2473CForbidEarlierWrong)

end Rows
end Go.Proofs.Ybulkayeq
