/-
  No cell of these rows narrows 'for every input' (looked for: loops, veiled, ifaces, maps, wideKeys, modest, calm, conditions, laid).
  DERIVED. THE GIVEN ROWS OF THIS SEAT. 4 by the template 'for every input the law returns true; each argument reads behind the call as it read before'; 0 by the template 'total and deterministic' (their statements: YbulkhjcTotals.lean).
  GIVEN WITH THE SEED: the statements are not yours to turn. If you find one false, say at which input.
  Laid BY PROGRAM, IN A SANDBOX (cutbox-rows.mjs): the forced cells as the released guide's own fill.sh prints them over the translation 869df84b48af4038… (all of the seat's roots in one cut). By AI agents, Wed Nov 11 2026. No macro, syntax, notation, axiom, sorry.
-/
import Derived.Test.YbulkhjcChecked
import GoSem.Claim
import GoSem.ClaimJoined
import GoSem.ClaimMapViews
import Derived.JoinedTies
import Derived.KernelRfl
namespace Go.Proofs.Ybulkhjc
/- THE CELL 'sum', in the pinned program and in every row, IS THE sha256 OF THE DUMP (.gsa) THAT YbulkhjcProg.lean LOADS. Nothing in Lean hashes anything: it is a label: what it is worth is what the hold of that sum in a sandbox is worth. -/
noncomputable def Yba.pinned : Pinned := { name := "ybulkhjc", sum := "869df84b48af40388fd92d8f70e287a125f712064347abc66b342fe952672e8e", checked := Yba.checked }
namespace Rows
def none {H : Type} : Left H := { results := [], args := [] }

/-- 'aba.LawS0405AFrame': WHATEVER THE INPUT: true; the input reads as it did. -/
def lawS0405AFrameSpec : ChangeSpec := { name := "lawS0405AFrame", fn := fun _ => fun
  | [d1, d2, d3, d4, d5, d6, d7, d8, d9] => { results := [.lit (.bool true)], args := [d1, d2, d3, d4, d5, d6, d7, d8, d9] }
  | _ => none }
def lawS0405AFrameRow : OpenClaim := { program := "ybulkhjc", sum := "869df84b48af40388fd92d8f70e287a125f712064347abc66b342fe952672e8e", func := "example.com/longcast/longcast/aba.LawS0405AFrame", spec := "lawS0405AFrame", plainKeys := false, apart := false }
def LawS0405AFrameSaid : Prop := lawS0405AFrameRow.holds Yba.pinned (OpenSpec.ofChange lawS0405AFrameSpec)

/-- ITS FALSE NEIGHBOUR: 'it returns false'. Refute it at one input. -/
def lawS0405AFrameWrong : ChangeSpec := { name := "lawS0405AFrame", fn := fun _ => fun
  | [d1, d2, d3, d4, d5, d6, d7, d8, d9] => { results := [.lit (.bool false)], args := [d1, d2, d3, d4, d5, d6, d7, d8, d9] }
  | _ => none }
def LawS0405AFrameWrongFalsely : Prop := lawS0405AFrameRow.holds Yba.pinned (OpenSpec.ofChange lawS0405AFrameWrong)

/-- 'aba.LawS0405ARaw': WHATEVER THE INPUT: true; the input reads as it did. -/
def lawS0405ARawSpec : ChangeSpec := { name := "lawS0405ARaw", fn := fun _ => fun
  | [d1, d2, d3] => { results := [.lit (.bool true)], args := [d1, d2, d3] }
  | _ => none }
def lawS0405ARawRow : OpenClaim := { program := "ybulkhjc", sum := "869df84b48af40388fd92d8f70e287a125f712064347abc66b342fe952672e8e", func := "example.com/longcast/longcast/aba.LawS0405ARaw", spec := "lawS0405ARaw", plainKeys := false, apart := false }
def LawS0405ARawSaid : Prop := lawS0405ARawRow.holds Yba.pinned (OpenSpec.ofChange lawS0405ARawSpec)

/-- ITS FALSE NEIGHBOUR: 'it returns false'. Refute it at one input. -/
def lawS0405ARawWrong : ChangeSpec := { name := "lawS0405ARaw", fn := fun _ => fun
  | [d1, d2, d3] => { results := [.lit (.bool false)], args := [d1, d2, d3] }
  | _ => none }
def LawS0405ARawWrongFalsely : Prop := lawS0405ARawRow.holds Yba.pinned (OpenSpec.ofChange lawS0405ARawWrong)

/-- 'bbn.LawS0405BExact': WHATEVER THE INPUT: true; the input reads as it did. -/
def lawS0405BExactSpec : ChangeSpec := { name := "lawS0405BExact", fn := fun _ => fun
  | [d1, d2, d3, d4, d5, d6, d7, d8, d9] => { results := [.lit (.bool true)], args := [d1, d2, d3, d4, d5, d6, d7, d8, d9] }
  | _ => none }
def lawS0405BExactRow : OpenClaim := { program := "ybulkhjc", sum := "869df84b48af40388fd92d8f70e287a125f712064347abc66b342fe952672e8e", func := "example.com/longcast/longcast/bbn.LawS0405BExact", spec := "lawS0405BExact", plainKeys := false, apart := false }
def LawS0405BExactSaid : Prop := lawS0405BExactRow.holds Yba.pinned (OpenSpec.ofChange lawS0405BExactSpec)

/-- ITS FALSE NEIGHBOUR: 'it returns false'. Refute it at one input. -/
def lawS0405BExactWrong : ChangeSpec := { name := "lawS0405BExact", fn := fun _ => fun
  | [d1, d2, d3, d4, d5, d6, d7, d8, d9] => { results := [.lit (.bool false)], args := [d1, d2, d3, d4, d5, d6, d7, d8, d9] }
  | _ => none }
def LawS0405BExactWrongFalsely : Prop := lawS0405BExactRow.holds Yba.pinned (OpenSpec.ofChange lawS0405BExactWrong)

/-- 'bbn.LawS0405BKeeps': WHATEVER THE INPUT: true; the input reads as it did. -/
def lawS0405BKeepsSpec : ChangeSpec := { name := "lawS0405BKeeps", fn := fun _ => fun
  | [d1, d2, d3, d4, d5, d6, d7, d8] => { results := [.lit (.bool true)], args := [d1, d2, d3, d4, d5, d6, d7, d8] }
  | _ => none }
def lawS0405BKeepsRow : OpenClaim := { program := "ybulkhjc", sum := "869df84b48af40388fd92d8f70e287a125f712064347abc66b342fe952672e8e", func := "example.com/longcast/longcast/bbn.LawS0405BKeeps", spec := "lawS0405BKeeps", plainKeys := false, apart := false }
def LawS0405BKeepsSaid : Prop := lawS0405BKeepsRow.holds Yba.pinned (OpenSpec.ofChange lawS0405BKeepsSpec)

/-- ITS FALSE NEIGHBOUR: 'it returns false'. Refute it at one input. -/
def lawS0405BKeepsWrong : ChangeSpec := { name := "lawS0405BKeeps", fn := fun _ => fun
  | [d1, d2, d3, d4, d5, d6, d7, d8] => { results := [.lit (.bool false)], args := [d1, d2, d3, d4, d5, d6, d7, d8] }
  | _ => none }
def LawS0405BKeepsWrongFalsely : Prop := lawS0405BKeepsRow.holds Yba.pinned (OpenSpec.ofChange lawS0405BKeepsWrong)

end Rows
end Go.Proofs.Ybulkhjc
