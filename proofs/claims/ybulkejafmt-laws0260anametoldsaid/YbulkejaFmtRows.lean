/-
  No cell of these rows narrows 'for every input' (looked for: loops, veiled, ifaces, maps, wideKeys, modest, calm, conditions, laid).
  DERIVED. THE GIVEN ROWS OF THIS SEAT. 2 by the template 'for every input the law returns true; each argument reads behind the call as it read before'; 0 by the template 'total and deterministic' (their statements: YbulkejaFmtTotals.lean).
  GIVEN WITH THE SEED: the statements are not yours to turn. If you find one false, say at which input.
  Laid BY PROGRAM, IN A SANDBOX (cutbox-rows.mjs): the forced cells as the released guide's own fill.sh prints them over the translation c8efae4d1dfb8dfb… (all of the seat's roots in one cut). By AI agents, Wed Nov 11 2026. No macro, syntax, notation, axiom, sorry.
-/
import Derived.Test.YbulkejaFmtChecked
import GoSem.Claim
import GoSem.ClaimJoined
import GoSem.ClaimMapViews
import Derived.JoinedTies
import Derived.KernelRfl
namespace Go.Proofs.YbulkejaFmt
/- THE CELL 'sum', in the pinned program and in every row, IS THE sha256 OF THE DUMP (.gsa) THAT YbulkejaFmtProg.lean LOADS. Nothing in Lean hashes anything: it is a label: what it is worth is what the hold of that sum in a sandbox is worth. -/
noncomputable def Ybaf.pinned : Pinned := { name := "ybulkejafmt", sum := "c8efae4d1dfb8dfbb6a5229f80324a7f1f5bf6f1d76416f6d73ae18febf324ee", checked := Ybaf.checked }
namespace Rows
def none {H : Type} : Left H := { results := [], args := [] }

/-- 'anchorpath.LawS0260AName': WHATEVER THE INPUT: true; the input reads as it did. -/
def lawS0260ANameSpec : ChangeSpec := { name := "lawS0260AName", fn := fun _ => fun
  | [d] => { results := [.lit (.bool true)], args := [d] }
  | _ => none }
def lawS0260ANameRow : OpenClaim := { program := "ybulkejafmt", sum := "c8efae4d1dfb8dfbb6a5229f80324a7f1f5bf6f1d76416f6d73ae18febf324ee", func := "example.com/anchorpath/anchorpath.LawS0260AName", spec := "lawS0260AName", stops := ["fmt.Sprintf"], inPlace := ["fmt.Sprintf"], apart := false }
/-- NO THEOREM (fmt's text is open here; it may be false): for the released tool's asking of the row's closed facts alone. THE STATEMENT IS 'LawS0260ANameToldSaid' (YbulkejaFmtCards.lean). -/
def LawS0260ANameFormAsk : Prop := lawS0260ANameRow.holds Ybaf.pinned (OpenSpec.ofChange lawS0260ANameSpec)

/-- ITS FALSE NEIGHBOUR: 'it returns false'. Refute it at one input. -/
def lawS0260ANameWrong : ChangeSpec := { name := "lawS0260AName", fn := fun _ => fun
  | [d] => { results := [.lit (.bool false)], args := [d] }
  | _ => none }
def LawS0260ANameWrongFormAsk : Prop := lawS0260ANameRow.holds Ybaf.pinned (OpenSpec.ofChange lawS0260ANameWrong)

/-- 'anchorpath.LawS0260ADistinct': WHATEVER THE INPUT: true; the input reads as it did. -/
def lawS0260ADistinctSpec : ChangeSpec := { name := "lawS0260ADistinct", fn := fun _ => fun
  | [d1, d2] => { results := [.lit (.bool true)], args := [d1, d2] }
  | _ => none }
def lawS0260ADistinctRow : OpenClaim := { program := "ybulkejafmt", sum := "c8efae4d1dfb8dfbb6a5229f80324a7f1f5bf6f1d76416f6d73ae18febf324ee", func := "example.com/anchorpath/anchorpath.LawS0260ADistinct", spec := "lawS0260ADistinct", stops := ["fmt.Sprintf"], inPlace := ["fmt.Sprintf"], apart := false }
/-- NO THEOREM (fmt's text is open here; it may be false): for the released tool's asking of the row's closed facts alone. THE STATEMENT IS 'LawS0260ADistinctToldSaid' (YbulkejaFmtCards.lean). -/
def LawS0260ADistinctFormAsk : Prop := lawS0260ADistinctRow.holds Ybaf.pinned (OpenSpec.ofChange lawS0260ADistinctSpec)

/-- ITS FALSE NEIGHBOUR: 'it returns false'. Refute it at one input. -/
def lawS0260ADistinctWrong : ChangeSpec := { name := "lawS0260ADistinct", fn := fun _ => fun
  | [d1, d2] => { results := [.lit (.bool false)], args := [d1, d2] }
  | _ => none }
def LawS0260ADistinctWrongFormAsk : Prop := lawS0260ADistinctRow.holds Ybaf.pinned (OpenSpec.ofChange lawS0260ADistinctWrong)

end Rows
end Go.Proofs.YbulkejaFmt
