/-
  No cell of these rows narrows 'for every input' (looked for: loops, veiled, ifaces, maps, wideKeys, modest, calm, conditions, laid).
  DERIVED. THE GIVEN ROWS OF THIS SEAT. 6 by the template 'for every input the law returns true; each argument reads behind the call as it read before'; 0 by the template 'total and deterministic' (their statements: YbulklvkTotals.lean).
  GIVEN WITH THE SEED: the statements are not yours to turn. If you find one false, say at which input.
  Laid BY PROGRAM, IN A SANDBOX (cutbox-rows.mjs): the forced cells as the released guide's own fill.sh prints them over the translation 45f88af4f9e27374… (all of the seat's roots in one cut). By AI agents, Wed Nov 11 2026. No macro, syntax, notation, axiom, sorry.
-/
import Derived.Test.YbulklvkChecked
import GoSem.Claim
import GoSem.ClaimJoined
import GoSem.ClaimMapViews
import Derived.JoinedTies
import Derived.KernelRfl
namespace Go.Proofs.Ybulklvk
/- THE CELL 'sum', in the pinned program and in every row, IS THE sha256 OF THE DUMP (.gsa) THAT YbulklvkProg.lean LOADS. Nothing in Lean hashes anything: it is a label: what it is worth is what the hold of that sum in a sandbox is worth. -/
noncomputable def Yba.pinned : Pinned := { name := "ybulklvk", sum := "45f88af4f9e27374369d56483015ceb5338c4b234aee55a72ffb272f0fa4b405", checked := Yba.checked }
namespace Rows
def none {H : Type} : Left H := { results := [], args := [] }

/-- 'skerry.LawS0621APassOn': WHATEVER THE INPUT: true; the input reads as it did. -/
def lawS0621APassOnSpec : ChangeSpec := { name := "lawS0621APassOn", fn := fun _ => fun
  | [d1, d2, d3, d4, d5, d6] => { results := [.lit (.bool true)], args := [d1, d2, d3, d4, d5, d6] }
  | _ => none }
def lawS0621APassOnRow : OpenClaim := { program := "ybulklvk", sum := "45f88af4f9e27374369d56483015ceb5338c4b234aee55a72ffb272f0fa4b405", func := "example.com/skerry/skerry.LawS0621APassOn", spec := "lawS0621APassOn", apart := false }
def LawS0621APassOnSaid : Prop := lawS0621APassOnRow.holds Yba.pinned (OpenSpec.ofChange lawS0621APassOnSpec)

/-- ITS FALSE NEIGHBOUR: 'it returns false'. Refute it at one input. -/
def lawS0621APassOnWrong : ChangeSpec := { name := "lawS0621APassOn", fn := fun _ => fun
  | [d1, d2, d3, d4, d5, d6] => { results := [.lit (.bool false)], args := [d1, d2, d3, d4, d5, d6] }
  | _ => none }
def LawS0621APassOnWrongFalsely : Prop := lawS0621APassOnRow.holds Yba.pinned (OpenSpec.ofChange lawS0621APassOnWrong)

/-- 'sim.LawS0621BExact': WHATEVER THE INPUT: true; the input reads as it did. -/
def lawS0621BExactSpec : ChangeSpec := { name := "lawS0621BExact", fn := fun _ => fun
  | [d1, d2, d3, d4, d5] => { results := [.lit (.bool true)], args := [d1, d2, d3, d4, d5] }
  | _ => none }
def lawS0621BExactRow : OpenClaim := { program := "ybulklvk", sum := "45f88af4f9e27374369d56483015ceb5338c4b234aee55a72ffb272f0fa4b405", func := "example.com/skerry/skerry/internal/sim.LawS0621BExact", spec := "lawS0621BExact", unfollowed := true, recurses := true, apart := false }
def LawS0621BExactSaid : Prop := lawS0621BExactRow.holds Yba.pinned (OpenSpec.ofChange lawS0621BExactSpec)

/-- ITS FALSE NEIGHBOUR: 'it returns false'. Refute it at one input. -/
def lawS0621BExactWrong : ChangeSpec := { name := "lawS0621BExact", fn := fun _ => fun
  | [d1, d2, d3, d4, d5] => { results := [.lit (.bool false)], args := [d1, d2, d3, d4, d5] }
  | _ => none }
def LawS0621BExactWrongFalsely : Prop := lawS0621BExactRow.holds Yba.pinned (OpenSpec.ofChange lawS0621BExactWrong)

/-- 'sim.LawS0621BBounds': WHATEVER THE INPUT: true; the input reads as it did. -/
def lawS0621BBoundsSpec : ChangeSpec := { name := "lawS0621BBounds", fn := fun _ => fun
  | [d1, d2, d3, d4, d5] => { results := [.lit (.bool true)], args := [d1, d2, d3, d4, d5] }
  | _ => none }
def lawS0621BBoundsRow : OpenClaim := { program := "ybulklvk", sum := "45f88af4f9e27374369d56483015ceb5338c4b234aee55a72ffb272f0fa4b405", func := "example.com/skerry/skerry/internal/sim.LawS0621BBounds", spec := "lawS0621BBounds", unfollowed := true, recurses := true, apart := false }
def LawS0621BBoundsSaid : Prop := lawS0621BBoundsRow.holds Yba.pinned (OpenSpec.ofChange lawS0621BBoundsSpec)

/-- ITS FALSE NEIGHBOUR: 'it returns false'. Refute it at one input. -/
def lawS0621BBoundsWrong : ChangeSpec := { name := "lawS0621BBounds", fn := fun _ => fun
  | [d1, d2, d3, d4, d5] => { results := [.lit (.bool false)], args := [d1, d2, d3, d4, d5] }
  | _ => none }
def LawS0621BBoundsWrongFalsely : Prop := lawS0621BBoundsRow.holds Yba.pinned (OpenSpec.ofChange lawS0621BBoundsWrong)

/-- 'skerry.LawS0621CValue': WHATEVER THE INPUT: true; the input reads as it did. -/
def lawS0621CValueSpec : ChangeSpec := { name := "lawS0621CValue", fn := fun _ => fun
  | [d1, d2, d3] => { results := [.lit (.bool true)], args := [d1, d2, d3] }
  | _ => none }
def lawS0621CValueRow : OpenClaim := { program := "ybulklvk", sum := "45f88af4f9e27374369d56483015ceb5338c4b234aee55a72ffb272f0fa4b405", func := "example.com/skerry/skerry.LawS0621CValue", spec := "lawS0621CValue", apart := false }
def LawS0621CValueSaid : Prop := lawS0621CValueRow.holds Yba.pinned (OpenSpec.ofChange lawS0621CValueSpec)

/-- ITS FALSE NEIGHBOUR: 'it returns false'. Refute it at one input. -/
def lawS0621CValueWrong : ChangeSpec := { name := "lawS0621CValue", fn := fun _ => fun
  | [d1, d2, d3] => { results := [.lit (.bool false)], args := [d1, d2, d3] }
  | _ => none }
def LawS0621CValueWrongFalsely : Prop := lawS0621CValueRow.holds Yba.pinned (OpenSpec.ofChange lawS0621CValueWrong)

/-- 'skerry.LawS0621CEvery': WHATEVER THE INPUT: true; the input reads as it did. -/
def lawS0621CEverySpec : ChangeSpec := { name := "lawS0621CEvery", fn := fun _ => fun
  | [d1, d2] => { results := [.lit (.bool true)], args := [d1, d2] }
  | _ => none }
def lawS0621CEveryRow : OpenClaim := { program := "ybulklvk", sum := "45f88af4f9e27374369d56483015ceb5338c4b234aee55a72ffb272f0fa4b405", func := "example.com/skerry/skerry.LawS0621CEvery", spec := "lawS0621CEvery", apart := false }
def LawS0621CEverySaid : Prop := lawS0621CEveryRow.holds Yba.pinned (OpenSpec.ofChange lawS0621CEverySpec)

/-- ITS FALSE NEIGHBOUR: 'it returns false'. Refute it at one input. -/
def lawS0621CEveryWrong : ChangeSpec := { name := "lawS0621CEvery", fn := fun _ => fun
  | [d1, d2] => { results := [.lit (.bool false)], args := [d1, d2] }
  | _ => none }
def LawS0621CEveryWrongFalsely : Prop := lawS0621CEveryRow.holds Yba.pinned (OpenSpec.ofChange lawS0621CEveryWrong)

/-- 'skerry.LawS0621CBound': WHATEVER THE INPUT: true; the input reads as it did. -/
def lawS0621CBoundSpec : ChangeSpec := { name := "lawS0621CBound", fn := fun _ => fun
  | [d1, d2] => { results := [.lit (.bool true)], args := [d1, d2] }
  | _ => none }
def lawS0621CBoundRow : OpenClaim := { program := "ybulklvk", sum := "45f88af4f9e27374369d56483015ceb5338c4b234aee55a72ffb272f0fa4b405", func := "example.com/skerry/skerry.LawS0621CBound", spec := "lawS0621CBound", apart := false }
def LawS0621CBoundSaid : Prop := lawS0621CBoundRow.holds Yba.pinned (OpenSpec.ofChange lawS0621CBoundSpec)

/-- ITS FALSE NEIGHBOUR: 'it returns false'. Refute it at one input. -/
def lawS0621CBoundWrong : ChangeSpec := { name := "lawS0621CBound", fn := fun _ => fun
  | [d1, d2] => { results := [.lit (.bool false)], args := [d1, d2] }
  | _ => none }
def LawS0621CBoundWrongFalsely : Prop := lawS0621CBoundRow.holds Yba.pinned (OpenSpec.ofChange lawS0621CBoundWrong)

end Rows
end Go.Proofs.Ybulklvk
