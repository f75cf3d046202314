/-
  No cell of these rows narrows 'for every input' (looked for: loops, veiled, ifaces, maps, wideKeys, modest, calm, conditions, laid).
  DERIVED. THE GIVEN ROWS OF THIS SEAT. 3 by the template 'for every input the law returns true; each argument reads behind the call as it read before'; 0 by the template 'total and deterministic' (their statements: YbulkcrssTotals.lean).
  GIVEN WITH THE SEED: the statements are not yours to turn. If you find one false, say at which input.
  Laid BY PROGRAM, IN A SANDBOX (cutbox-rows.mjs): the forced cells as the released guide's own fill.sh prints them over the translation 2a5b4edb716cda47… (all of the seat's roots in one cut). By AI agents, Wed Nov 11 2026. No macro, syntax, notation, axiom, sorry.
-/
import Derived.Test.YbulkcrssChecked
import GoSem.Claim
import GoSem.ClaimJoined
import GoSem.ClaimMapViews
import Derived.JoinedTies
import Derived.KernelRfl
namespace Go.Proofs.Ybulkcrss
/- THE CELL 'sum', in the pinned program and in every row, IS THE sha256 OF THE DUMP (.gsa) THAT YbulkcrssProg.lean LOADS. Nothing in Lean hashes anything: it is a label: what it is worth is what the hold of that sum in a sandbox is worth. -/
noncomputable def Yba.pinned : Pinned := { name := "ybulkcrss", sum := "2a5b4edb716cda478b60dbb286e593935620be04222c752b285d40c9a3e3c283", checked := Yba.checked }
namespace Rows
def none {H : Type} : Left H := { results := [], args := [] }

/-- 'resolvent.LawS4672ARaw': WHATEVER THE INPUT: true; the input reads as it did. -/
def lawS4672ARawSpec : ChangeSpec := { name := "lawS4672ARaw", fn := fun _ => fun
  | [d1, d2] => { results := [.lit (.bool true)], args := [d1, d2] }
  | _ => none }
def lawS4672ARawRow : OpenClaim := { program := "ybulkcrss", sum := "2a5b4edb716cda478b60dbb286e593935620be04222c752b285d40c9a3e3c283", func := "example.com/resolvent/resolvent.LawS4672ARaw", spec := "lawS4672ARaw", apart := false }
def LawS4672ARawSaid : Prop := lawS4672ARawRow.holds Yba.pinned (OpenSpec.ofChange lawS4672ARawSpec)

/-- ITS FALSE NEIGHBOUR: 'it returns false'. Refute it at one input. -/
def lawS4672ARawWrong : ChangeSpec := { name := "lawS4672ARaw", fn := fun _ => fun
  | [d1, d2] => { results := [.lit (.bool false)], args := [d1, d2] }
  | _ => none }
def LawS4672ARawWrongFalsely : Prop := lawS4672ARawRow.holds Yba.pinned (OpenSpec.ofChange lawS4672ARawWrong)

/-- 'resolvent.LawS4672AMapped': WHATEVER THE INPUT: true; the input reads as it did. -/
def lawS4672AMappedSpec : ChangeSpec := { name := "lawS4672AMapped", fn := fun _ => fun
  | [d1, d2] => { results := [.lit (.bool true)], args := [d1, d2] }
  | _ => none }
def lawS4672AMappedRow : OpenClaim := { program := "ybulkcrss", sum := "2a5b4edb716cda478b60dbb286e593935620be04222c752b285d40c9a3e3c283", func := "example.com/resolvent/resolvent.LawS4672AMapped", spec := "lawS4672AMapped", apart := false }
def LawS4672AMappedSaid : Prop := lawS4672AMappedRow.holds Yba.pinned (OpenSpec.ofChange lawS4672AMappedSpec)

/-- ITS FALSE NEIGHBOUR: 'it returns false'. Refute it at one input. -/
def lawS4672AMappedWrong : ChangeSpec := { name := "lawS4672AMapped", fn := fun _ => fun
  | [d1, d2] => { results := [.lit (.bool false)], args := [d1, d2] }
  | _ => none }
def LawS4672AMappedWrongFalsely : Prop := lawS4672AMappedRow.holds Yba.pinned (OpenSpec.ofChange lawS4672AMappedWrong)

/-- 'resolvent.LawS4672BModel': WHATEVER THE INPUT: true; the input reads as it did. -/
def lawS4672BModelSpec : ChangeSpec := { name := "lawS4672BModel", fn := fun _ => fun
  | [d1, d2, d3, d4, d5] => { results := [.lit (.bool true)], args := [d1, d2, d3, d4, d5] }
  | _ => none }
def lawS4672BModelRow : OpenClaim := { program := "ybulkcrss", sum := "2a5b4edb716cda478b60dbb286e593935620be04222c752b285d40c9a3e3c283", func := "example.com/resolvent/resolvent.LawS4672BModel", spec := "lawS4672BModel", apart := false }
def LawS4672BModelSaid : Prop := lawS4672BModelRow.holds Yba.pinned (OpenSpec.ofChange lawS4672BModelSpec)

/-- ITS FALSE NEIGHBOUR: 'it returns false'. Refute it at one input. -/
def lawS4672BModelWrong : ChangeSpec := { name := "lawS4672BModel", fn := fun _ => fun
  | [d1, d2, d3, d4, d5] => { results := [.lit (.bool false)], args := [d1, d2, d3, d4, d5] }
  | _ => none }
def LawS4672BModelWrongFalsely : Prop := lawS4672BModelRow.holds Yba.pinned (OpenSpec.ofChange lawS4672BModelWrong)

end Rows
end Go.Proofs.Ybulkcrss
