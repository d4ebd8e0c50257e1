/-
  No cell of these rows narrows 'for every input' (looked for: loops, veiled, ifaces, maps, wideKeys, modest, calm, conditions, laid).
  DERIVED. THE GIVEN ROWS OF THIS SEAT. 2 by the template 'for every input the law returns true; each argument reads behind the call as it read before'; 0 by the template 'total and deterministic' (their statements: YbulkaijuTotals.lean).
  GIVEN WITH THE SEED: the statements are not yours to turn. If you find one false, say at which input.
  Laid BY PROGRAM, IN A SANDBOX (cutbox-rows.mjs): the forced cells as the released guide's own fill.sh prints them over the translation 23f5f9a1fae440b3… (all of the seat's roots in one cut). By AI agents, Wed Nov 11 2026. No macro, syntax, notation, axiom, sorry.
-/
import Derived.Test.YbulkaijuChecked
import GoSem.Claim
import GoSem.ClaimJoined
import GoSem.ClaimMapViews
import Derived.JoinedTies
import Derived.KernelRfl
namespace Go.Proofs.Ybulkaiju
/- THE CELL 'sum', in the pinned program and in every row, IS THE sha256 OF THE DUMP (.gsa) THAT YbulkaijuProg.lean LOADS. Nothing in Lean hashes anything: it is a label: what it is worth is what the hold of that sum in a sandbox is worth. -/
noncomputable def Yba.pinned : Pinned := { name := "ybulkaiju", sum := "23f5f9a1fae440b329cc1d876c8d56170caf42eb52ab0257d863d792617263c4", checked := Yba.checked }
namespace Rows
def none {H : Type} : Left H := { results := [], args := [] }

/-- 'cluster.LawS1710BExact': WHATEVER THE INPUT: true; the input reads as it did. -/
def lawS1710BExactSpec : ChangeSpec := { name := "lawS1710BExact", fn := fun _ => fun
  | [d1, d2, d3, d4, d5] => { results := [.lit (.bool true)], args := [d1, d2, d3, d4, d5] }
  | _ => none }
def lawS1710BExactRow : OpenClaim := { program := "ybulkaiju", sum := "23f5f9a1fae440b329cc1d876c8d56170caf42eb52ab0257d863d792617263c4", func := "example.com/shardpact/shardpact/internal/cluster.LawS1710BExact", spec := "lawS1710BExact", apart := false }
def LawS1710BExactSaid : Prop := lawS1710BExactRow.holds Yba.pinned (OpenSpec.ofChange lawS1710BExactSpec)

/-- ITS FALSE NEIGHBOUR: 'it returns false'. Refute it at one input. -/
def lawS1710BExactWrong : ChangeSpec := { name := "lawS1710BExact", fn := fun _ => fun
  | [d1, d2, d3, d4, d5] => { results := [.lit (.bool false)], args := [d1, d2, d3, d4, d5] }
  | _ => none }
def LawS1710BExactWrongFalsely : Prop := lawS1710BExactRow.holds Yba.pinned (OpenSpec.ofChange lawS1710BExactWrong)

/-- 'cluster.LawS1710BEmptyNotNil': WHATEVER THE INPUT: true; the input reads as it did. -/
def lawS1710BEmptyNotNilSpec : ChangeSpec := { name := "lawS1710BEmptyNotNil", fn := fun _ => fun
  | [d1, d2, d3] => { results := [.lit (.bool true)], args := [d1, d2, d3] }
  | _ => none }
def lawS1710BEmptyNotNilRow : OpenClaim := { program := "ybulkaiju", sum := "23f5f9a1fae440b329cc1d876c8d56170caf42eb52ab0257d863d792617263c4", func := "example.com/shardpact/shardpact/internal/cluster.LawS1710BEmptyNotNil", spec := "lawS1710BEmptyNotNil", apart := false }
def LawS1710BEmptyNotNilSaid : Prop := lawS1710BEmptyNotNilRow.holds Yba.pinned (OpenSpec.ofChange lawS1710BEmptyNotNilSpec)

/-- ITS FALSE NEIGHBOUR: 'it returns false'. Refute it at one input. -/
def lawS1710BEmptyNotNilWrong : ChangeSpec := { name := "lawS1710BEmptyNotNil", fn := fun _ => fun
  | [d1, d2, d3] => { results := [.lit (.bool false)], args := [d1, d2, d3] }
  | _ => none }
def LawS1710BEmptyNotNilWrongFalsely : Prop := lawS1710BEmptyNotNilRow.holds Yba.pinned (OpenSpec.ofChange lawS1710BEmptyNotNilWrong)

end Rows
end Go.Proofs.Ybulkaiju
