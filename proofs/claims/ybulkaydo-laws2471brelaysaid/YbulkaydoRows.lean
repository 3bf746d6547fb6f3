/-
  No cell of these rows narrows 'for every input' (looked for: loops, veiled, ifaces, maps, wideKeys, modest, calm, conditions, laid).
  DERIVED. THE GIVEN ROWS OF THIS SEAT. 2 by the template 'for every input the law returns true; each argument reads behind the call as it read before'; 0 by the template 'total and deterministic' (their statements: YbulkaydoTotals.lean).
  GIVEN WITH THE SEED: the statements are not yours to turn. If you find one false, say at which input.
  Laid BY PROGRAM, IN A SANDBOX (cutbox-rows.mjs): the forced cells as the released guide's own fill.sh prints them over the translation e5deb9b06a44f073… (all of the seat's roots in one cut). By AI agents, Wed Nov 11 2026. No macro, syntax, notation, axiom, sorry.
-/
import Derived.Test.YbulkaydoChecked
import GoSem.Claim
import GoSem.ClaimJoined
import GoSem.ClaimMapViews
import Derived.JoinedTies
import Derived.KernelRfl
namespace Go.Proofs.Ybulkaydo
/- THE CELL 'sum', in the pinned program and in every row, IS THE sha256 OF THE DUMP (.gsa) THAT YbulkaydoProg.lean LOADS. Nothing in Lean hashes anything: it is a label: what it is worth is what the hold of that sum in a sandbox is worth. -/
noncomputable def Yba.pinned : Pinned := { name := "ybulkaydo", sum := "e5deb9b06a44f0731507ca66f566f152fb5a15c4f6213300d6bbabae5bfb9ceb", checked := Yba.checked }
namespace Rows
def none {H : Type} : Left H := { results := [], args := [] }

/-- 'tta.LawS2471BTable': WHATEVER THE INPUT: true; the input reads as it did. -/
def lawS2471BTableSpec : ChangeSpec := { name := "lawS2471BTable", fn := fun _ => fun
  | [d1, d2, d3, d4, d5, d6, d7, d8] => { results := [.lit (.bool true)], args := [d1, d2, d3, d4, d5, d6, d7, d8] }
  | _ => none }
def lawS2471BTableRow : OpenClaim := { program := "ybulkaydo", sum := "e5deb9b06a44f0731507ca66f566f152fb5a15c4f6213300d6bbabae5bfb9ceb", func := "example.com/synchrony-bench/synchrony-bench/internal/tta.LawS2471BTable", spec := "lawS2471BTable", apart := false }
def LawS2471BTableSaid : Prop := lawS2471BTableRow.holds Yba.pinned (OpenSpec.ofChange lawS2471BTableSpec)

/-- ITS FALSE NEIGHBOUR: 'it returns false'. Refute it at one input. -/
def lawS2471BTableWrong : ChangeSpec := { name := "lawS2471BTable", fn := fun _ => fun
  | [d1, d2, d3, d4, d5, d6, d7, d8] => { results := [.lit (.bool false)], args := [d1, d2, d3, d4, d5, d6, d7, d8] }
  | _ => none }
def LawS2471BTableWrongFalsely : Prop := lawS2471BTableRow.holds Yba.pinned (OpenSpec.ofChange lawS2471BTableWrong)

/-- 'tta.LawS2471BRelay': WHATEVER THE INPUT: true; the input reads as it did. -/
def lawS2471BRelaySpec : ChangeSpec := { name := "lawS2471BRelay", fn := fun _ => fun
  | [d1, d2, d3, d4, d5, d6] => { results := [.lit (.bool true)], args := [d1, d2, d3, d4, d5, d6] }
  | _ => none }
def lawS2471BRelayRow : OpenClaim := { program := "ybulkaydo", sum := "e5deb9b06a44f0731507ca66f566f152fb5a15c4f6213300d6bbabae5bfb9ceb", func := "example.com/synchrony-bench/synchrony-bench/internal/tta.LawS2471BRelay", spec := "lawS2471BRelay", apart := false }
def LawS2471BRelaySaid : Prop := lawS2471BRelayRow.holds Yba.pinned (OpenSpec.ofChange lawS2471BRelaySpec)

/-- ITS FALSE NEIGHBOUR: 'it returns false'. Refute it at one input. -/
def lawS2471BRelayWrong : ChangeSpec := { name := "lawS2471BRelay", fn := fun _ => fun
  | [d1, d2, d3, d4, d5, d6] => { results := [.lit (.bool false)], args := [d1, d2, d3, d4, d5, d6] }
  | _ => none }
def LawS2471BRelayWrongFalsely : Prop := lawS2471BRelayRow.holds Yba.pinned (OpenSpec.ofChange lawS2471BRelayWrong)

end Rows
end Go.Proofs.Ybulkaydo
