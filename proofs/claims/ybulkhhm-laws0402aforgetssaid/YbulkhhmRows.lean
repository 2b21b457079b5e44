/-
  No cell of these rows narrows 'for every input' (looked for: loops, veiled, ifaces, maps, wideKeys, modest, calm, conditions, laid).
  DERIVED. THE GIVEN ROWS OF THIS SEAT. 4 by the template 'for every input the law returns true; each argument reads behind the call as it read before'; 0 by the template 'total and deterministic' (their statements: YbulkhhmTotals.lean).
  GIVEN WITH THE SEED: the statements are not yours to turn. If you find one false, say at which input.
  Laid BY PROGRAM, IN A SANDBOX (cutbox-rows.mjs): the forced cells as the released guide's own fill.sh prints them over the translation 51874e0eafd07ab3… (all of the seat's roots in one cut). By AI agents, Wed Nov 11 2026. No macro, syntax, notation, axiom, sorry.
-/
import Derived.Test.YbulkhhmChecked
import GoSem.Claim
import GoSem.ClaimJoined
import GoSem.ClaimMapViews
import Derived.JoinedTies
import Derived.KernelRfl
namespace Go.Proofs.Ybulkhhm
/- THE CELL 'sum', in the pinned program and in every row, IS THE sha256 OF THE DUMP (.gsa) THAT YbulkhhmProg.lean LOADS. Nothing in Lean hashes anything: it is a label: what it is worth is what the hold of that sum in a sandbox is worth. -/
noncomputable def Yba.pinned : Pinned := { name := "ybulkhhm", sum := "51874e0eafd07ab353afa603d0f22e96331f984a1bb78df963959dbc2b743364", checked := Yba.checked }
namespace Rows
def none {H : Type} : Left H := { results := [], args := [] }

/-- 'accounts.LawS0402AForgets': WHATEVER THE INPUT: true; the input reads as it did. -/
def lawS0402AForgetsSpec : ChangeSpec := { name := "lawS0402AForgets", fn := fun _ => fun
  | [d1, d2] => { results := [.lit (.bool true)], args := [d1, d2] }
  | _ => none }
def lawS0402AForgetsRow : OpenClaim := { program := "ybulkhhm", sum := "51874e0eafd07ab353afa603d0f22e96331f984a1bb78df963959dbc2b743364", func := "example.com/counterfoil/counterfoil/accounts.LawS0402AForgets", spec := "lawS0402AForgets", apart := false }
def LawS0402AForgetsSaid : Prop := lawS0402AForgetsRow.holds Yba.pinned (OpenSpec.ofChange lawS0402AForgetsSpec)

/-- ITS FALSE NEIGHBOUR: 'it returns false'. Refute it at one input. -/
def lawS0402AForgetsWrong : ChangeSpec := { name := "lawS0402AForgets", fn := fun _ => fun
  | [d1, d2] => { results := [.lit (.bool false)], args := [d1, d2] }
  | _ => none }
def LawS0402AForgetsWrongFalsely : Prop := lawS0402AForgetsRow.holds Yba.pinned (OpenSpec.ofChange lawS0402AForgetsWrong)

/-- 'accounts.LawS0402BExact': WHATEVER THE INPUT: true; the input reads as it did. -/
def lawS0402BExactSpec : ChangeSpec := { name := "lawS0402BExact", fn := fun _ => fun
  | [d] => { results := [.lit (.bool true)], args := [d] }
  | _ => none }
def lawS0402BExactRow : OpenClaim := { program := "ybulkhhm", sum := "51874e0eafd07ab353afa603d0f22e96331f984a1bb78df963959dbc2b743364", func := "example.com/counterfoil/counterfoil/accounts.LawS0402BExact", spec := "lawS0402BExact", apart := false }
def LawS0402BExactSaid : Prop := lawS0402BExactRow.holds Yba.pinned (OpenSpec.ofChange lawS0402BExactSpec)

/-- ITS FALSE NEIGHBOUR: 'it returns false'. Refute it at one input. -/
def lawS0402BExactWrong : ChangeSpec := { name := "lawS0402BExact", fn := fun _ => fun
  | [d] => { results := [.lit (.bool false)], args := [d] }
  | _ => none }
def LawS0402BExactWrongFalsely : Prop := lawS0402BExactRow.holds Yba.pinned (OpenSpec.ofChange lawS0402BExactWrong)

/-- 'accounts.LawS0402BExactSmall': WHATEVER THE INPUT: true; the input reads as it did. -/
def lawS0402BExactSmallSpec : ChangeSpec := { name := "lawS0402BExactSmall", fn := fun _ => fun
  | [d] => { results := [.lit (.bool true)], args := [d] }
  | _ => none }
def lawS0402BExactSmallRow : OpenClaim := { program := "ybulkhhm", sum := "51874e0eafd07ab353afa603d0f22e96331f984a1bb78df963959dbc2b743364", func := "example.com/counterfoil/counterfoil/accounts.LawS0402BExactSmall", spec := "lawS0402BExactSmall", apart := false }
def LawS0402BExactSmallSaid : Prop := lawS0402BExactSmallRow.holds Yba.pinned (OpenSpec.ofChange lawS0402BExactSmallSpec)

/-- ITS FALSE NEIGHBOUR: 'it returns false'. Refute it at one input. -/
def lawS0402BExactSmallWrong : ChangeSpec := { name := "lawS0402BExactSmall", fn := fun _ => fun
  | [d] => { results := [.lit (.bool false)], args := [d] }
  | _ => none }
def LawS0402BExactSmallWrongFalsely : Prop := lawS0402BExactSmallRow.holds Yba.pinned (OpenSpec.ofChange lawS0402BExactSmallWrong)

/-- 'accounts.LawS0402BDoubling': WHATEVER THE INPUT: true; the input reads as it did. -/
def lawS0402BDoublingSpec : ChangeSpec := { name := "lawS0402BDoubling", fn := fun _ => fun
  | [d] => { results := [.lit (.bool true)], args := [d] }
  | _ => none }
def lawS0402BDoublingRow : OpenClaim := { program := "ybulkhhm", sum := "51874e0eafd07ab353afa603d0f22e96331f984a1bb78df963959dbc2b743364", func := "example.com/counterfoil/counterfoil/accounts.LawS0402BDoubling", spec := "lawS0402BDoubling", apart := false }
def LawS0402BDoublingSaid : Prop := lawS0402BDoublingRow.holds Yba.pinned (OpenSpec.ofChange lawS0402BDoublingSpec)

/-- ITS FALSE NEIGHBOUR: 'it returns false'. Refute it at one input. -/
def lawS0402BDoublingWrong : ChangeSpec := { name := "lawS0402BDoubling", fn := fun _ => fun
  | [d] => { results := [.lit (.bool false)], args := [d] }
  | _ => none }
def LawS0402BDoublingWrongFalsely : Prop := lawS0402BDoublingRow.holds Yba.pinned (OpenSpec.ofChange lawS0402BDoublingWrong)

end Rows
end Go.Proofs.Ybulkhhm
