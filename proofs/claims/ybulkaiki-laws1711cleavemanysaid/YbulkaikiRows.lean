/-
  No cell of these rows narrows 'for every input' (looked for: loops, veiled, ifaces, maps, wideKeys, modest, calm, conditions, laid).
  DERIVED. THE GIVEN ROWS OF THIS SEAT. 5 by the template 'for every input the law returns true; each argument reads behind the call as it read before'; 0 by the template 'total and deterministic' (their statements: YbulkaikiTotals.lean).
  GIVEN WITH THE SEED: the statements are not yours to turn. If you find one false, say at which input.
  Laid BY PROGRAM, IN A SANDBOX (cutbox-rows.mjs): the forced cells as the released guide's own fill.sh prints them over the translation d91edd1e470a1313… (all of the seat's roots in one cut). By AI agents, Wed Nov 11 2026. No macro, syntax, notation, axiom, sorry.
-/
import Derived.Test.YbulkaikiChecked
import GoSem.Claim
import GoSem.ClaimJoined
import GoSem.ClaimMapViews
import Derived.JoinedTies
import Derived.KernelRfl
namespace Go.Proofs.Ybulkaiki
/- THE CELL 'sum', in the pinned program and in every row, IS THE sha256 OF THE DUMP (.gsa) THAT YbulkaikiProg.lean LOADS. Nothing in Lean hashes anything: it is a label: what it is worth is what the hold of that sum in a sandbox is worth. -/
noncomputable def Yba.pinned : Pinned := { name := "ybulkaiki", sum := "d91edd1e470a1313770eb7ba9efbcff6a84e0efb9fd84e2333598b914c0e6415", checked := Yba.checked }
namespace Rows
def none {H : Type} : Left H := { results := [], args := [] }

/-- 'ringwright.LawS1711BModel': WHATEVER THE INPUT: true; the input reads as it did. -/
def lawS1711BModelSpec : ChangeSpec := { name := "lawS1711BModel", fn := fun _ => fun
  | [d1, d2, d3, d4, d5, d6] => { results := [.lit (.bool true)], args := [d1, d2, d3, d4, d5, d6] }
  | _ => none }
def lawS1711BModelRow : OpenClaim := { program := "ybulkaiki", sum := "d91edd1e470a1313770eb7ba9efbcff6a84e0efb9fd84e2333598b914c0e6415", func := "example.com/ringwright/ringwright.LawS1711BModel", spec := "lawS1711BModel", plainKeys := false, apart := false }
def LawS1711BModelSaid : Prop := lawS1711BModelRow.holds Yba.pinned (OpenSpec.ofChange lawS1711BModelSpec)

/-- ITS FALSE NEIGHBOUR: 'it returns false'. Refute it at one input. -/
def lawS1711BModelWrong : ChangeSpec := { name := "lawS1711BModel", fn := fun _ => fun
  | [d1, d2, d3, d4, d5, d6] => { results := [.lit (.bool false)], args := [d1, d2, d3, d4, d5, d6] }
  | _ => none }
def LawS1711BModelWrongFalsely : Prop := lawS1711BModelRow.holds Yba.pinned (OpenSpec.ofChange lawS1711BModelWrong)

/-- 'ringwright.LawS1711BDescendant': WHATEVER THE INPUT: true; the input reads as it did. -/
def lawS1711BDescendantSpec : ChangeSpec := { name := "lawS1711BDescendant", fn := fun _ => fun
  | [d1, d2, d3, d4] => { results := [.lit (.bool true)], args := [d1, d2, d3, d4] }
  | _ => none }
def lawS1711BDescendantRow : OpenClaim := { program := "ybulkaiki", sum := "d91edd1e470a1313770eb7ba9efbcff6a84e0efb9fd84e2333598b914c0e6415", func := "example.com/ringwright/ringwright.LawS1711BDescendant", spec := "lawS1711BDescendant", plainKeys := false, apart := false }
def LawS1711BDescendantSaid : Prop := lawS1711BDescendantRow.holds Yba.pinned (OpenSpec.ofChange lawS1711BDescendantSpec)

/-- ITS FALSE NEIGHBOUR: 'it returns false'. Refute it at one input. -/
def lawS1711BDescendantWrong : ChangeSpec := { name := "lawS1711BDescendant", fn := fun _ => fun
  | [d1, d2, d3, d4] => { results := [.lit (.bool false)], args := [d1, d2, d3, d4] }
  | _ => none }
def LawS1711BDescendantWrongFalsely : Prop := lawS1711BDescendantRow.holds Yba.pinned (OpenSpec.ofChange lawS1711BDescendantWrong)

/-- 'ringwright.LawS1711BSelfAndChild': WHATEVER THE INPUT: true; the input reads as it did. -/
def lawS1711BSelfAndChildSpec : ChangeSpec := { name := "lawS1711BSelfAndChild", fn := fun _ => fun
  | [d1, d2, d3, d4] => { results := [.lit (.bool true)], args := [d1, d2, d3, d4] }
  | _ => none }
def lawS1711BSelfAndChildRow : OpenClaim := { program := "ybulkaiki", sum := "d91edd1e470a1313770eb7ba9efbcff6a84e0efb9fd84e2333598b914c0e6415", func := "example.com/ringwright/ringwright.LawS1711BSelfAndChild", spec := "lawS1711BSelfAndChild", plainKeys := false, apart := false }
def LawS1711BSelfAndChildSaid : Prop := lawS1711BSelfAndChildRow.holds Yba.pinned (OpenSpec.ofChange lawS1711BSelfAndChildSpec)

/-- ITS FALSE NEIGHBOUR: 'it returns false'. Refute it at one input. -/
def lawS1711BSelfAndChildWrong : ChangeSpec := { name := "lawS1711BSelfAndChild", fn := fun _ => fun
  | [d1, d2, d3, d4] => { results := [.lit (.bool false)], args := [d1, d2, d3, d4] }
  | _ => none }
def LawS1711BSelfAndChildWrongFalsely : Prop := lawS1711BSelfAndChildRow.holds Yba.pinned (OpenSpec.ofChange lawS1711BSelfAndChildWrong)

/-- 'sim.LawS1711CLeaveOne': WHATEVER THE INPUT: true; the input reads as it did. -/
def lawS1711CLeaveOneSpec : ChangeSpec := { name := "lawS1711CLeaveOne", fn := fun _ => fun
  | [d1, d2, d3] => { results := [.lit (.bool true)], args := [d1, d2, d3] }
  | _ => none }
def lawS1711CLeaveOneRow : OpenClaim := { program := "ybulkaiki", sum := "d91edd1e470a1313770eb7ba9efbcff6a84e0efb9fd84e2333598b914c0e6415", func := "example.com/ringwright/ringwright/internal/sim.LawS1711CLeaveOne", spec := "lawS1711CLeaveOne", plainKeys := false, apart := false }
def LawS1711CLeaveOneSaid : Prop := lawS1711CLeaveOneRow.holds Yba.pinned (OpenSpec.ofChange lawS1711CLeaveOneSpec)

/-- ITS FALSE NEIGHBOUR: 'it returns false'. Refute it at one input. -/
def lawS1711CLeaveOneWrong : ChangeSpec := { name := "lawS1711CLeaveOne", fn := fun _ => fun
  | [d1, d2, d3] => { results := [.lit (.bool false)], args := [d1, d2, d3] }
  | _ => none }
def LawS1711CLeaveOneWrongFalsely : Prop := lawS1711CLeaveOneRow.holds Yba.pinned (OpenSpec.ofChange lawS1711CLeaveOneWrong)

/-- 'sim.LawS1711CLeaveMany': WHATEVER THE INPUT: true; the input reads as it did. -/
def lawS1711CLeaveManySpec : ChangeSpec := { name := "lawS1711CLeaveMany", fn := fun _ => fun
  | [d1, d2] => { results := [.lit (.bool true)], args := [d1, d2] }
  | _ => none }
def lawS1711CLeaveManyRow : OpenClaim := { program := "ybulkaiki", sum := "d91edd1e470a1313770eb7ba9efbcff6a84e0efb9fd84e2333598b914c0e6415", func := "example.com/ringwright/ringwright/internal/sim.LawS1711CLeaveMany", spec := "lawS1711CLeaveMany", plainKeys := false, apart := false }
def LawS1711CLeaveManySaid : Prop := lawS1711CLeaveManyRow.holds Yba.pinned (OpenSpec.ofChange lawS1711CLeaveManySpec)

/-- ITS FALSE NEIGHBOUR: 'it returns false'. Refute it at one input. -/
def lawS1711CLeaveManyWrong : ChangeSpec := { name := "lawS1711CLeaveMany", fn := fun _ => fun
  | [d1, d2] => { results := [.lit (.bool false)], args := [d1, d2] }
  | _ => none }
def LawS1711CLeaveManyWrongFalsely : Prop := lawS1711CLeaveManyRow.holds Yba.pinned (OpenSpec.ofChange lawS1711CLeaveManyWrong)

end Rows
end Go.Proofs.Ybulkaiki
