/-
  No cell of these rows narrows 'for every input' (looked for: loops, veiled, ifaces, maps, wideKeys, modest, calm, conditions, laid).
  DERIVED. THE GIVEN ROWS OF THIS SEAT. 1 by the template 'for every input the law returns true; each argument reads behind the call as it read before'; 0 by the template 'total and deterministic' (their statements: YbulklvyTotals.lean).
  GIVEN WITH THE SEED: the statements are not yours to turn. If you find one false, say at which input.
  Laid BY PROGRAM, IN A SANDBOX (cutbox-rows.mjs): the forced cells as the released guide's own fill.sh prints them over the translation e574a0599597b1f3… (all of the seat's roots in one cut). By AI agents, Wed Nov 11 2026. No macro, syntax, notation, axiom, sorry.
-/
import Derived.Test.YbulklvyChecked
import GoSem.Claim
import GoSem.ClaimJoined
import GoSem.ClaimMapViews
import Derived.JoinedTies
import Derived.KernelRfl
namespace Go.Proofs.Ybulklvy
/- THE CELL 'sum', in the pinned program and in every row, IS THE sha256 OF THE DUMP (.gsa) THAT YbulklvyProg.lean LOADS. Nothing in Lean hashes anything: it is a label: what it is worth is what the hold of that sum in a sandbox is worth. -/
noncomputable def Yba.pinned : Pinned := { name := "ybulklvy", sum := "e574a0599597b1f32744049461d1a76eb503a702391392b0fcbc0bf610aa709e", checked := Yba.checked }
namespace Rows
def none {H : Type} : Left H := { results := [], args := [] }

/-- 'tally.LawS0622BGroups': WHATEVER THE INPUT: true; the input reads as it did. -/
def lawS0622BGroupsSpec : ChangeSpec := { name := "lawS0622BGroups", fn := fun _ => fun
  | [d1, d2, d3, d4, d5, d6, d7, d8] => { results := [.lit (.bool true)], args := [d1, d2, d3, d4, d5, d6, d7, d8] }
  | _ => none }
def lawS0622BGroupsRow : OpenClaim := { program := "ybulklvy", sum := "e574a0599597b1f32744049461d1a76eb503a702391392b0fcbc0bf610aa709e", func := "example.com/tallyhall/tallyhall/internal/tally.LawS0622BGroups", spec := "lawS0622BGroups", apart := false }
def LawS0622BGroupsSaid : Prop := lawS0622BGroupsRow.holds Yba.pinned (OpenSpec.ofChange lawS0622BGroupsSpec)

/-- ITS FALSE NEIGHBOUR: 'it returns false'. Refute it at one input. -/
def lawS0622BGroupsWrong : ChangeSpec := { name := "lawS0622BGroups", fn := fun _ => fun
  | [d1, d2, d3, d4, d5, d6, d7, d8] => { results := [.lit (.bool false)], args := [d1, d2, d3, d4, d5, d6, d7, d8] }
  | _ => none }
def LawS0622BGroupsWrongFalsely : Prop := lawS0622BGroupsRow.holds Yba.pinned (OpenSpec.ofChange lawS0622BGroupsWrong)

end Rows
end Go.Proofs.Ybulklvy
