/-
  No cell of these rows narrows 'for every input' (looked for: loops, veiled, ifaces, maps, wideKeys, modest, calm, conditions, laid).
  DERIVED. THE GIVEN ROWS OF THIS SEAT. 5 by the template 'for every input the law returns true; each argument reads behind the call as it read before'; 0 by the template 'total and deterministic' (their statements: YbulkbhxeTotals.lean).
  GIVEN WITH THE SEED: the statements are not yours to turn. If you find one false, say at which input.
  Laid BY PROGRAM, IN A SANDBOX (cutbox-rows.mjs): the forced cells as the released guide's own fill.sh prints them over the translation 676cbcc1914395da… (all of the seat's roots in one cut). By AI agents, Wed Nov 11 2026. No macro, syntax, notation, axiom, sorry.
-/
import Derived.Test.YbulkbhxeChecked
import GoSem.Claim
import GoSem.ClaimJoined
import GoSem.ClaimMapViews
import Derived.JoinedTies
import Derived.KernelRfl
namespace Go.Proofs.Ybulkbhxe
/- THE CELL 'sum', in the pinned program and in every row, IS THE sha256 OF THE DUMP (.gsa) THAT YbulkbhxeProg.lean LOADS. Nothing in Lean hashes anything: it is a label: what it is worth is what the hold of that sum in a sandbox is worth. -/
noncomputable def Yba.pinned : Pinned := { name := "ybulkbhxe", sum := "676cbcc1914395daa10e67204458a99a065d0e90b149cbc8c40e1c85847b55c5", checked := Yba.checked }
namespace Rows
def none {H : Type} : Left H := { results := [], args := [] }

/-- 'vm.LawS2942AModel': WHATEVER THE INPUT: true; the input reads as it did. -/
def lawS2942AModelSpec : ChangeSpec := { name := "lawS2942AModel", fn := fun _ => fun
  | [d1, d2, d3, d4, d5] => { results := [.lit (.bool true)], args := [d1, d2, d3, d4, d5] }
  | _ => none }
def lawS2942AModelRow : OpenClaim := { program := "ybulkbhxe", sum := "676cbcc1914395daa10e67204458a99a065d0e90b149cbc8c40e1c85847b55c5", func := "example.com/antecede/antecede/internal/vm.LawS2942AModel", spec := "lawS2942AModel", apart := false }
def LawS2942AModelSaid : Prop := lawS2942AModelRow.holds Yba.pinned (OpenSpec.ofChange lawS2942AModelSpec)

/-- ITS FALSE NEIGHBOUR: 'it returns false'. Refute it at one input. -/
def lawS2942AModelWrong : ChangeSpec := { name := "lawS2942AModel", fn := fun _ => fun
  | [d1, d2, d3, d4, d5] => { results := [.lit (.bool false)], args := [d1, d2, d3, d4, d5] }
  | _ => none }
def LawS2942AModelWrongFalsely : Prop := lawS2942AModelRow.holds Yba.pinned (OpenSpec.ofChange lawS2942AModelWrong)

/-- 'vm.LawS2942AIdem': WHATEVER THE INPUT: true; the input reads as it did. -/
def lawS2942AIdemSpec : ChangeSpec := { name := "lawS2942AIdem", fn := fun _ => fun
  | [d1, d2, d3] => { results := [.lit (.bool true)], args := [d1, d2, d3] }
  | _ => none }
def lawS2942AIdemRow : OpenClaim := { program := "ybulkbhxe", sum := "676cbcc1914395daa10e67204458a99a065d0e90b149cbc8c40e1c85847b55c5", func := "example.com/antecede/antecede/internal/vm.LawS2942AIdem", spec := "lawS2942AIdem", apart := false }
def LawS2942AIdemSaid : Prop := lawS2942AIdemRow.holds Yba.pinned (OpenSpec.ofChange lawS2942AIdemSpec)

/-- ITS FALSE NEIGHBOUR: 'it returns false'. Refute it at one input. -/
def lawS2942AIdemWrong : ChangeSpec := { name := "lawS2942AIdem", fn := fun _ => fun
  | [d1, d2, d3] => { results := [.lit (.bool false)], args := [d1, d2, d3] }
  | _ => none }
def LawS2942AIdemWrongFalsely : Prop := lawS2942AIdemRow.holds Yba.pinned (OpenSpec.ofChange lawS2942AIdemWrong)

/-- 'vm.LawS2942BExact': WHATEVER THE INPUT: true; the input reads as it did. -/
def lawS2942BExactSpec : ChangeSpec := { name := "lawS2942BExact", fn := fun _ => fun
  | [d1, d2, d3, d4, d5] => { results := [.lit (.bool true)], args := [d1, d2, d3, d4, d5] }
  | _ => none }
def lawS2942BExactRow : OpenClaim := { program := "ybulkbhxe", sum := "676cbcc1914395daa10e67204458a99a065d0e90b149cbc8c40e1c85847b55c5", func := "example.com/antecede/antecede/internal/vm.LawS2942BExact", spec := "lawS2942BExact", apart := false }
def LawS2942BExactSaid : Prop := lawS2942BExactRow.holds Yba.pinned (OpenSpec.ofChange lawS2942BExactSpec)

/-- ITS FALSE NEIGHBOUR: 'it returns false'. Refute it at one input. -/
def lawS2942BExactWrong : ChangeSpec := { name := "lawS2942BExact", fn := fun _ => fun
  | [d1, d2, d3, d4, d5] => { results := [.lit (.bool false)], args := [d1, d2, d3, d4, d5] }
  | _ => none }
def LawS2942BExactWrongFalsely : Prop := lawS2942BExactRow.holds Yba.pinned (OpenSpec.ofChange lawS2942BExactWrong)

/-- 'vm.LawS2942BInjective': WHATEVER THE INPUT: true; the input reads as it did. -/
def lawS2942BInjectiveSpec : ChangeSpec := { name := "lawS2942BInjective", fn := fun _ => fun
  | [d1, d2, d3, d4, d5, d6, d7] => { results := [.lit (.bool true)], args := [d1, d2, d3, d4, d5, d6, d7] }
  | _ => none }
def lawS2942BInjectiveRow : OpenClaim := { program := "ybulkbhxe", sum := "676cbcc1914395daa10e67204458a99a065d0e90b149cbc8c40e1c85847b55c5", func := "example.com/antecede/antecede/internal/vm.LawS2942BInjective", spec := "lawS2942BInjective", apart := false }
def LawS2942BInjectiveSaid : Prop := lawS2942BInjectiveRow.holds Yba.pinned (OpenSpec.ofChange lawS2942BInjectiveSpec)

/-- ITS FALSE NEIGHBOUR: 'it returns false'. Refute it at one input. -/
def lawS2942BInjectiveWrong : ChangeSpec := { name := "lawS2942BInjective", fn := fun _ => fun
  | [d1, d2, d3, d4, d5, d6, d7] => { results := [.lit (.bool false)], args := [d1, d2, d3, d4, d5, d6, d7] }
  | _ => none }
def LawS2942BInjectiveWrongFalsely : Prop := lawS2942BInjectiveRow.holds Yba.pinned (OpenSpec.ofChange lawS2942BInjectiveWrong)

/-- 'compile.LawS2942CNames': WHATEVER THE INPUT: true; the input reads as it did. -/
def lawS2942CNamesSpec : ChangeSpec := { name := "lawS2942CNames", fn := fun _ => fun
  | [d1, d2, d3] => { results := [.lit (.bool true)], args := [d1, d2, d3] }
  | _ => none }
def lawS2942CNamesRow : OpenClaim := { program := "ybulkbhxe", sum := "676cbcc1914395daa10e67204458a99a065d0e90b149cbc8c40e1c85847b55c5", func := "example.com/antecede/antecede/internal/compile.LawS2942CNames", spec := "lawS2942CNames", apart := false }
def LawS2942CNamesSaid : Prop := lawS2942CNamesRow.holds Yba.pinned (OpenSpec.ofChange lawS2942CNamesSpec)

/-- ITS FALSE NEIGHBOUR: 'it returns false'. Refute it at one input. -/
def lawS2942CNamesWrong : ChangeSpec := { name := "lawS2942CNames", fn := fun _ => fun
  | [d1, d2, d3] => { results := [.lit (.bool false)], args := [d1, d2, d3] }
  | _ => none }
def LawS2942CNamesWrongFalsely : Prop := lawS2942CNamesRow.holds Yba.pinned (OpenSpec.ofChange lawS2942CNamesWrong)

end Rows
end Go.Proofs.Ybulkbhxe
