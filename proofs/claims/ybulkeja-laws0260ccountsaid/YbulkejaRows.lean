/-
  No cell of these rows narrows 'for every input' (looked for: loops, veiled, ifaces, maps, wideKeys, modest, calm, conditions, laid).
  DERIVED. THE GIVEN ROWS OF THIS SEAT. 4 by the template 'for every input the law returns true; each argument reads behind the call as it read before'; 0 by the template 'total and deterministic' (their statements: YbulkejaTotals.lean).
  GIVEN WITH THE SEED: the statements are not yours to turn. If you find one false, say at which input.
  Laid BY PROGRAM, IN A SANDBOX (cutbox-rows.mjs): the forced cells as the released guide's own fill.sh prints them over the translation 7c84da2f929f7afd… (all of the seat's roots in one cut). By AI agents, Wed Nov 11 2026. No macro, syntax, notation, axiom, sorry.
-/
import Derived.Test.YbulkejaChecked
import GoSem.Claim
import GoSem.ClaimJoined
import GoSem.ClaimMapViews
import Derived.JoinedTies
import Derived.KernelRfl
namespace Go.Proofs.Ybulkeja
/- THE CELL 'sum', in the pinned program and in every row, IS THE sha256 OF THE DUMP (.gsa) THAT YbulkejaProg.lean LOADS. Nothing in Lean hashes anything: it is a label: what it is worth is what the hold of that sum in a sandbox is worth. -/
noncomputable def Yba.pinned : Pinned := { name := "ybulkeja", sum := "7c84da2f929f7afd81352125032bc1fa13db8de13143ed9619ff3388ee549858", checked := Yba.checked }
namespace Rows
def none {H : Type} : Left H := { results := [], args := [] }

/-- 'anchorpath.LawS0260BExact': WHATEVER THE INPUT: true; the input reads as it did. -/
def lawS0260BExactSpec : ChangeSpec := { name := "lawS0260BExact", fn := fun _ => fun
  | [d1, d2, d3] => { results := [.lit (.bool true)], args := [d1, d2, d3] }
  | _ => none }
def lawS0260BExactRow : OpenClaim := { program := "ybulkeja", sum := "7c84da2f929f7afd81352125032bc1fa13db8de13143ed9619ff3388ee549858", func := "example.com/anchorpath/anchorpath.LawS0260BExact", spec := "lawS0260BExact", plainKeys := false, apart := false }
def LawS0260BExactSaid : Prop := lawS0260BExactRow.holds Yba.pinned (OpenSpec.ofChange lawS0260BExactSpec)

/-- ITS FALSE NEIGHBOUR: 'it returns false'. Refute it at one input. -/
def lawS0260BExactWrong : ChangeSpec := { name := "lawS0260BExact", fn := fun _ => fun
  | [d1, d2, d3] => { results := [.lit (.bool false)], args := [d1, d2, d3] }
  | _ => none }
def LawS0260BExactWrongFalsely : Prop := lawS0260BExactRow.holds Yba.pinned (OpenSpec.ofChange lawS0260BExactWrong)

/-- 'anchorpath.LawS0260BSplit': WHATEVER THE INPUT: true; the input reads as it did. -/
def lawS0260BSplitSpec : ChangeSpec := { name := "lawS0260BSplit", fn := fun _ => fun
  | [d1, d2, d3] => { results := [.lit (.bool true)], args := [d1, d2, d3] }
  | _ => none }
def lawS0260BSplitRow : OpenClaim := { program := "ybulkeja", sum := "7c84da2f929f7afd81352125032bc1fa13db8de13143ed9619ff3388ee549858", func := "example.com/anchorpath/anchorpath.LawS0260BSplit", spec := "lawS0260BSplit", plainKeys := false, apart := false }
def LawS0260BSplitSaid : Prop := lawS0260BSplitRow.holds Yba.pinned (OpenSpec.ofChange lawS0260BSplitSpec)

/-- ITS FALSE NEIGHBOUR: 'it returns false'. Refute it at one input. -/
def lawS0260BSplitWrong : ChangeSpec := { name := "lawS0260BSplit", fn := fun _ => fun
  | [d1, d2, d3] => { results := [.lit (.bool false)], args := [d1, d2, d3] }
  | _ => none }
def LawS0260BSplitWrongFalsely : Prop := lawS0260BSplitRow.holds Yba.pinned (OpenSpec.ofChange lawS0260BSplitWrong)

/-- 'anchorpath.LawS0260CExact': WHATEVER THE INPUT: true; the input reads as it did. -/
def lawS0260CExactSpec : ChangeSpec := { name := "lawS0260CExact", fn := fun _ => fun
  | [d1, d2, d3] => { results := [.lit (.bool true)], args := [d1, d2, d3] }
  | _ => none }
def lawS0260CExactRow : OpenClaim := { program := "ybulkeja", sum := "7c84da2f929f7afd81352125032bc1fa13db8de13143ed9619ff3388ee549858", func := "example.com/anchorpath/anchorpath.LawS0260CExact", spec := "lawS0260CExact", plainKeys := false, apart := false }
def LawS0260CExactSaid : Prop := lawS0260CExactRow.holds Yba.pinned (OpenSpec.ofChange lawS0260CExactSpec)

/-- ITS FALSE NEIGHBOUR: 'it returns false'. Refute it at one input. -/
def lawS0260CExactWrong : ChangeSpec := { name := "lawS0260CExact", fn := fun _ => fun
  | [d1, d2, d3] => { results := [.lit (.bool false)], args := [d1, d2, d3] }
  | _ => none }
def LawS0260CExactWrongFalsely : Prop := lawS0260CExactRow.holds Yba.pinned (OpenSpec.ofChange lawS0260CExactWrong)

/-- 'anchorpath.LawS0260CCount': WHATEVER THE INPUT: true; the input reads as it did. -/
def lawS0260CCountSpec : ChangeSpec := { name := "lawS0260CCount", fn := fun _ => fun
  | [d1, d2, d3] => { results := [.lit (.bool true)], args := [d1, d2, d3] }
  | _ => none }
def lawS0260CCountRow : OpenClaim := { program := "ybulkeja", sum := "7c84da2f929f7afd81352125032bc1fa13db8de13143ed9619ff3388ee549858", func := "example.com/anchorpath/anchorpath.LawS0260CCount", spec := "lawS0260CCount", plainKeys := false, apart := false }
def LawS0260CCountSaid : Prop := lawS0260CCountRow.holds Yba.pinned (OpenSpec.ofChange lawS0260CCountSpec)

/-- ITS FALSE NEIGHBOUR: 'it returns false'. Refute it at one input. -/
def lawS0260CCountWrong : ChangeSpec := { name := "lawS0260CCount", fn := fun _ => fun
  | [d1, d2, d3] => { results := [.lit (.bool false)], args := [d1, d2, d3] }
  | _ => none }
def LawS0260CCountWrongFalsely : Prop := lawS0260CCountRow.holds Yba.pinned (OpenSpec.ofChange lawS0260CCountWrong)

end Rows
end Go.Proofs.Ybulkeja
