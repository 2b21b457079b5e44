/-
  No cell of these rows narrows 'for every input' (looked for: loops, veiled, ifaces, maps, wideKeys, modest, calm, conditions, laid).
  DERIVED. THE GIVEN ROWS OF THIS SEAT. 2 by the template 'for every input the law returns true; each argument reads behind the call as it read before'; 0 by the template 'total and deterministic' (their statements: YbulkhioTotals.lean).
  GIVEN WITH THE SEED: the statements are not yours to turn. If you find one false, say at which input.
  Laid BY PROGRAM, IN A SANDBOX (cutbox-rows.mjs): the forced cells as the released guide's own fill.sh prints them over the translation 1c95dfe256168014… (all of the seat's roots in one cut). By AI agents, Wed Nov 11 2026. No macro, syntax, notation, axiom, sorry.
-/
import Derived.Test.YbulkhioChecked
import GoSem.Claim
import GoSem.ClaimJoined
import GoSem.ClaimMapViews
import Derived.JoinedTies
import Derived.KernelRfl
namespace Go.Proofs.Ybulkhio
/- THE CELL 'sum', in the pinned program and in every row, IS THE sha256 OF THE DUMP (.gsa) THAT YbulkhioProg.lean LOADS. Nothing in Lean hashes anything: it is a label: what it is worth is what the hold of that sum in a sandbox is worth. -/
noncomputable def Yba.pinned : Pinned := { name := "ybulkhio", sum := "1c95dfe256168014fc2c0e7d55135cac61bdd96a681ab4ee15289f4448b718e4", checked := Yba.checked }
namespace Rows
def none {H : Type} : Left H := { results := [], args := [] }

/-- 'quote.LawS0404BSpec': WHATEVER THE INPUT: true; the input reads as it did. -/
def lawS0404BSpecSpec : ChangeSpec := { name := "lawS0404BSpec", fn := fun _ => fun
  | [d1, d2, d3, d4, d5] => { results := [.lit (.bool true)], args := [d1, d2, d3, d4, d5] }
  | _ => none }
def lawS0404BSpecRow : OpenClaim := { program := "ybulkhio", sum := "1c95dfe256168014fc2c0e7d55135cac61bdd96a681ab4ee15289f4448b718e4", func := "example.com/fundcharter/fundcharter/quote.LawS0404BSpec", spec := "lawS0404BSpec", unfollowed := true, recurses := true, apart := false }
def LawS0404BSpecSaid : Prop := lawS0404BSpecRow.holds Yba.pinned (OpenSpec.ofChange lawS0404BSpecSpec)

/-- ITS FALSE NEIGHBOUR: 'it returns false'. Refute it at one input. -/
def lawS0404BSpecWrong : ChangeSpec := { name := "lawS0404BSpec", fn := fun _ => fun
  | [d1, d2, d3, d4, d5] => { results := [.lit (.bool false)], args := [d1, d2, d3, d4, d5] }
  | _ => none }
def LawS0404BSpecWrongFalsely : Prop := lawS0404BSpecRow.holds Yba.pinned (OpenSpec.ofChange lawS0404BSpecWrong)

/-- 'quote.LawS0404BString': WHATEVER THE INPUT: true; the input reads as it did. -/
def lawS0404BStringSpec : ChangeSpec := { name := "lawS0404BString", fn := fun _ => fun
  | [d1, d2, d3, d4, d5] => { results := [.lit (.bool true)], args := [d1, d2, d3, d4, d5] }
  | _ => none }
def lawS0404BStringRow : OpenClaim := { program := "ybulkhio", sum := "1c95dfe256168014fc2c0e7d55135cac61bdd96a681ab4ee15289f4448b718e4", func := "example.com/fundcharter/fundcharter/quote.LawS0404BString", spec := "lawS0404BString", unfollowed := true, recurses := true, apart := false }
def LawS0404BStringSaid : Prop := lawS0404BStringRow.holds Yba.pinned (OpenSpec.ofChange lawS0404BStringSpec)

/-- ITS FALSE NEIGHBOUR: 'it returns false'. Refute it at one input. -/
def lawS0404BStringWrong : ChangeSpec := { name := "lawS0404BString", fn := fun _ => fun
  | [d1, d2, d3, d4, d5] => { results := [.lit (.bool false)], args := [d1, d2, d3, d4, d5] }
  | _ => none }
def LawS0404BStringWrongFalsely : Prop := lawS0404BStringRow.holds Yba.pinned (OpenSpec.ofChange lawS0404BStringWrong)

end Rows
end Go.Proofs.Ybulkhio
