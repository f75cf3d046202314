/-
  No cell of these rows narrows 'for every input' (looked for: loops, veiled, ifaces, maps, wideKeys, modest, calm, conditions, laid).
  DERIVED. THE GIVEN ROWS OF THIS SEAT. 4 by the template 'for every input the law returns true; each argument reads behind the call as it read before'; 0 by the template 'total and deterministic' (their statements: YbulkcrkqTotals.lean).
  GIVEN WITH THE SEED: the statements are not yours to turn. If you find one false, say at which input.
  Laid BY PROGRAM, IN A SANDBOX (cutbox-rows.mjs): the forced cells as the released guide's own fill.sh prints them over the translation 7b5bb0f9f9aef9b5… (all of the seat's roots in one cut). By AI agents, Wed Nov 11 2026. No macro, syntax, notation, axiom, sorry.
-/
import Derived.Test.YbulkcrkqChecked
import GoSem.Claim
import GoSem.ClaimJoined
import GoSem.ClaimMapViews
import Derived.JoinedTies
import Derived.KernelRfl
namespace Go.Proofs.Ybulkcrkq
/- THE CELL 'sum', in the pinned program and in every row, IS THE sha256 OF THE DUMP (.gsa) THAT YbulkcrkqProg.lean LOADS. Nothing in Lean hashes anything: it is a label: what it is worth is what the hold of that sum in a sandbox is worth. -/
noncomputable def Yba.pinned : Pinned := { name := "ybulkcrkq", sum := "7b5bb0f9f9aef9b53c284be8815c8f3e3adacc397b5b25745a9229ef485ae38b", checked := Yba.checked }
namespace Rows
def none {H : Type} : Left H := { results := [], args := [] }

/-- 'lockwright.LawS4657AModel': WHATEVER THE INPUT: true; the input reads as it did. -/
def lawS4657AModelSpec : ChangeSpec := { name := "lawS4657AModel", fn := fun _ => fun
  | [d1, d2, d3, d4, d5] => { results := [.lit (.bool true)], args := [d1, d2, d3, d4, d5] }
  | _ => none }
def lawS4657AModelRow : OpenClaim := { program := "ybulkcrkq", sum := "7b5bb0f9f9aef9b53c284be8815c8f3e3adacc397b5b25745a9229ef485ae38b", func := "example.com/lockwright/lockwright.LawS4657AModel", spec := "lawS4657AModel", apart := false }
def LawS4657AModelSaid : Prop := lawS4657AModelRow.holds Yba.pinned (OpenSpec.ofChange lawS4657AModelSpec)

/-- ITS FALSE NEIGHBOUR: 'it returns false'. Refute it at one input. -/
def lawS4657AModelWrong : ChangeSpec := { name := "lawS4657AModel", fn := fun _ => fun
  | [d1, d2, d3, d4, d5] => { results := [.lit (.bool false)], args := [d1, d2, d3, d4, d5] }
  | _ => none }
def LawS4657AModelWrongFalsely : Prop := lawS4657AModelRow.holds Yba.pinned (OpenSpec.ofChange lawS4657AModelWrong)

/-- 'lockwright.LawS4657APut': WHATEVER THE INPUT: true; the input reads as it did. -/
def lawS4657APutSpec : ChangeSpec := { name := "lawS4657APut", fn := fun _ => fun
  | [d1, d2, d3, d4, d5, d6, d7] => { results := [.lit (.bool true)], args := [d1, d2, d3, d4, d5, d6, d7] }
  | _ => none }
def lawS4657APutRow : OpenClaim := { program := "ybulkcrkq", sum := "7b5bb0f9f9aef9b53c284be8815c8f3e3adacc397b5b25745a9229ef485ae38b", func := "example.com/lockwright/lockwright.LawS4657APut", spec := "lawS4657APut", inPlace := ["sync/atomic.LoadUint32"], unfollowed := true, recurses := true, apart := false }
def LawS4657APutSaid : Prop := lawS4657APutRow.holds Yba.pinned (OpenSpec.ofChange lawS4657APutSpec)

/-- ITS FALSE NEIGHBOUR: 'it returns false'. Refute it at one input. -/
def lawS4657APutWrong : ChangeSpec := { name := "lawS4657APut", fn := fun _ => fun
  | [d1, d2, d3, d4, d5, d6, d7] => { results := [.lit (.bool false)], args := [d1, d2, d3, d4, d5, d6, d7] }
  | _ => none }
def LawS4657APutWrongFalsely : Prop := lawS4657APutRow.holds Yba.pinned (OpenSpec.ofChange lawS4657APutWrong)

/-- 'lockwright.LawS4657BExact': WHATEVER THE INPUT: true; the input reads as it did. -/
def lawS4657BExactSpec : ChangeSpec := { name := "lawS4657BExact", fn := fun _ => fun
  | [d1, d2, d3, d4] => { results := [.lit (.bool true)], args := [d1, d2, d3, d4] }
  | _ => none }
def lawS4657BExactRow : OpenClaim := { program := "ybulkcrkq", sum := "7b5bb0f9f9aef9b53c284be8815c8f3e3adacc397b5b25745a9229ef485ae38b", func := "example.com/lockwright/lockwright.LawS4657BExact", spec := "lawS4657BExact", inPlace := ["sync/atomic.StoreUint32", "sync/atomic.LoadUint32"], unfollowed := true, recurses := true, apart := false }
def LawS4657BExactSaid : Prop := lawS4657BExactRow.holds Yba.pinned (OpenSpec.ofChange lawS4657BExactSpec)

/-- ITS FALSE NEIGHBOUR: 'it returns false'. Refute it at one input. -/
def lawS4657BExactWrong : ChangeSpec := { name := "lawS4657BExact", fn := fun _ => fun
  | [d1, d2, d3, d4] => { results := [.lit (.bool false)], args := [d1, d2, d3, d4] }
  | _ => none }
def LawS4657BExactWrongFalsely : Prop := lawS4657BExactRow.holds Yba.pinned (OpenSpec.ofChange lawS4657BExactWrong)

/-- 'lockwright.LawS4657BStop': WHATEVER THE INPUT: true; the input reads as it did. -/
def lawS4657BStopSpec : ChangeSpec := { name := "lawS4657BStop", fn := fun _ => fun
  | [d1, d2, d3, d4, d5] => { results := [.lit (.bool true)], args := [d1, d2, d3, d4, d5] }
  | _ => none }
def lawS4657BStopRow : OpenClaim := { program := "ybulkcrkq", sum := "7b5bb0f9f9aef9b53c284be8815c8f3e3adacc397b5b25745a9229ef485ae38b", func := "example.com/lockwright/lockwright.LawS4657BStop", spec := "lawS4657BStop", inPlace := ["sync/atomic.StoreUint32", "sync/atomic.LoadUint32"], unfollowed := true, recurses := true, apart := false }
def LawS4657BStopSaid : Prop := lawS4657BStopRow.holds Yba.pinned (OpenSpec.ofChange lawS4657BStopSpec)

/-- ITS FALSE NEIGHBOUR: 'it returns false'. Refute it at one input. -/
def lawS4657BStopWrong : ChangeSpec := { name := "lawS4657BStop", fn := fun _ => fun
  | [d1, d2, d3, d4, d5] => { results := [.lit (.bool false)], args := [d1, d2, d3, d4, d5] }
  | _ => none }
def LawS4657BStopWrongFalsely : Prop := lawS4657BStopRow.holds Yba.pinned (OpenSpec.ofChange lawS4657BStopWrong)

end Rows
end Go.Proofs.Ybulkcrkq
