/-
  No cell of these rows narrows 'for every input' (looked for: loops, veiled, ifaces, maps, wideKeys, modest, calm, conditions, laid).
  DERIVED. THE GIVEN ROWS OF THIS SEAT. 2 by the template 'for every input the law returns true; each argument reads behind the call as it read before'; 0 by the template 'total and deterministic' (their statements: YbulkbhumTotals.lean).
  GIVEN WITH THE SEED: the statements are not yours to turn. If you find one false, say at which input.
  Laid BY PROGRAM, IN A SANDBOX (cutbox-rows.mjs): the forced cells as the released guide's own fill.sh prints them over the translation c63d686f4d0ac0ee… (all of the seat's roots in one cut). By AI agents, Wed Nov 11 2026. No macro, syntax, notation, axiom, sorry.
-/
import Derived.Test.YbulkbhumChecked
import GoSem.Claim
import GoSem.ClaimJoined
import GoSem.ClaimMapViews
import Derived.JoinedTies
import Derived.KernelRfl
namespace Go.Proofs.Ybulkbhum
/- THE CELL 'sum', in the pinned program and in every row, IS THE sha256 OF THE DUMP (.gsa) THAT YbulkbhumProg.lean LOADS. Nothing in Lean hashes anything: it is a label: what it is worth is what the hold of that sum in a sandbox is worth. -/
noncomputable def Yba.pinned : Pinned := { name := "ybulkbhum", sum := "c63d686f4d0ac0ee674d4e0ebf760992c76f951018d989070cb22086da3366b2", checked := Yba.checked }
namespace Rows
def none {H : Type} : Left H := { results := [], args := [] }

/-- 'repo.LawS2937BExact': WHATEVER THE INPUT: true; the input reads as it did. -/
def lawS2937BExactSpec : ChangeSpec := { name := "lawS2937BExact", fn := fun _ => fun
  | [d] => { results := [.lit (.bool true)], args := [d] }
  | _ => none }
def lawS2937BExactRow : OpenClaim := { program := "ybulkbhum", sum := "c63d686f4d0ac0ee674d4e0ebf760992c76f951018d989070cb22086da3366b2", func := "example.com/packwire/packwire/internal/repo.LawS2937BExact", spec := "lawS2937BExact", apart := false }
def LawS2937BExactSaid : Prop := lawS2937BExactRow.holds Yba.pinned (OpenSpec.ofChange lawS2937BExactSpec)

/-- ITS FALSE NEIGHBOUR: 'it returns false'. Refute it at one input. -/
def lawS2937BExactWrong : ChangeSpec := { name := "lawS2937BExact", fn := fun _ => fun
  | [d] => { results := [.lit (.bool false)], args := [d] }
  | _ => none }
def LawS2937BExactWrongFalsely : Prop := lawS2937BExactRow.holds Yba.pinned (OpenSpec.ofChange lawS2937BExactWrong)

/-- 'repo.LawS2937BPrefixOnce': WHATEVER THE INPUT: true; the input reads as it did. -/
def lawS2937BPrefixOnceSpec : ChangeSpec := { name := "lawS2937BPrefixOnce", fn := fun _ => fun
  | [d] => { results := [.lit (.bool true)], args := [d] }
  | _ => none }
def lawS2937BPrefixOnceRow : OpenClaim := { program := "ybulkbhum", sum := "c63d686f4d0ac0ee674d4e0ebf760992c76f951018d989070cb22086da3366b2", func := "example.com/packwire/packwire/internal/repo.LawS2937BPrefixOnce", spec := "lawS2937BPrefixOnce", apart := false }
def LawS2937BPrefixOnceSaid : Prop := lawS2937BPrefixOnceRow.holds Yba.pinned (OpenSpec.ofChange lawS2937BPrefixOnceSpec)

/-- ITS FALSE NEIGHBOUR: 'it returns false'. Refute it at one input. -/
def lawS2937BPrefixOnceWrong : ChangeSpec := { name := "lawS2937BPrefixOnce", fn := fun _ => fun
  | [d] => { results := [.lit (.bool false)], args := [d] }
  | _ => none }
def LawS2937BPrefixOnceWrongFalsely : Prop := lawS2937BPrefixOnceRow.holds Yba.pinned (OpenSpec.ofChange lawS2937BPrefixOnceWrong)

end Rows
end Go.Proofs.Ybulkbhum
