/-
  No cell of these rows narrows 'for every input' (looked for: loops, veiled, ifaces, maps, wideKeys, modest, calm, conditions, laid).
  DERIVED. THE GIVEN ROWS OF THIS SEAT. 3 by the template 'for every input the law returns true; each argument reads behind the call as it read before'; 0 by the template 'total and deterministic' (their statements: YbulkeleTotals.lean).
  GIVEN WITH THE SEED: the statements are not yours to turn. If you find one false, say at which input.
  Laid BY PROGRAM, IN A SANDBOX (cutbox-rows.mjs): the forced cells as the released guide's own fill.sh prints them over the translation d22e34decf2c5f22… (all of the seat's roots in one cut). By AI agents, Wed Nov 11 2026. No macro, syntax, notation, axiom, sorry.
-/
import Derived.Test.YbulkeleChecked
import GoSem.Claim
import GoSem.ClaimJoined
import GoSem.ClaimMapViews
import Derived.JoinedTies
import Derived.KernelRfl
namespace Go.Proofs.Ybulkele
/- THE CELL 'sum', in the pinned program and in every row, IS THE sha256 OF THE DUMP (.gsa) THAT YbulkeleProg.lean LOADS. Nothing in Lean hashes anything: it is a label: what it is worth is what the hold of that sum in a sandbox is worth. -/
noncomputable def Yba.pinned : Pinned := { name := "ybulkele", sum := "d22e34decf2c5f22a2dac155a45956d1d0e247972f9dbe78ffeab698929d470b", checked := Yba.checked }
namespace Rows
def none {H : Type} : Left H := { results := [], args := [] }

/-- 'affinet.LawS0264BCounts': WHATEVER THE INPUT: true; the input reads as it did. -/
def lawS0264BCountsSpec : ChangeSpec := { name := "lawS0264BCounts", fn := fun _ => fun
  | [d1, d2] => { results := [.lit (.bool true)], args := [d1, d2] }
  | _ => none }
def lawS0264BCountsRow : OpenClaim := { program := "ybulkele", sum := "d22e34decf2c5f22a2dac155a45956d1d0e247972f9dbe78ffeab698929d470b", func := "example.com/affinet/affinet.LawS0264BCounts", spec := "lawS0264BCounts", plainKeys := false, apart := false }
def LawS0264BCountsSaid : Prop := lawS0264BCountsRow.holds Yba.pinned (OpenSpec.ofChange lawS0264BCountsSpec)

/-- ITS FALSE NEIGHBOUR: 'it returns false'. Refute it at one input. -/
def lawS0264BCountsWrong : ChangeSpec := { name := "lawS0264BCounts", fn := fun _ => fun
  | [d1, d2] => { results := [.lit (.bool false)], args := [d1, d2] }
  | _ => none }
def LawS0264BCountsWrongFalsely : Prop := lawS0264BCountsRow.holds Yba.pinned (OpenSpec.ofChange lawS0264BCountsWrong)

/-- 'affinet.LawS0264CDue': WHATEVER THE INPUT: true; the input reads as it did. -/
def lawS0264CDueSpec : ChangeSpec := { name := "lawS0264CDue", fn := fun _ => fun
  | [d1, d2, d3] => { results := [.lit (.bool true)], args := [d1, d2, d3] }
  | _ => none }
def lawS0264CDueRow : OpenClaim := { program := "ybulkele", sum := "d22e34decf2c5f22a2dac155a45956d1d0e247972f9dbe78ffeab698929d470b", func := "example.com/affinet/affinet.LawS0264CDue", spec := "lawS0264CDue", plainKeys := false, apart := false }
def LawS0264CDueSaid : Prop := lawS0264CDueRow.holds Yba.pinned (OpenSpec.ofChange lawS0264CDueSpec)

/-- ITS FALSE NEIGHBOUR: 'it returns false'. Refute it at one input. -/
def lawS0264CDueWrong : ChangeSpec := { name := "lawS0264CDue", fn := fun _ => fun
  | [d1, d2, d3] => { results := [.lit (.bool false)], args := [d1, d2, d3] }
  | _ => none }
def LawS0264CDueWrongFalsely : Prop := lawS0264CDueRow.holds Yba.pinned (OpenSpec.ofChange lawS0264CDueWrong)

/-- 'affinet.LawS0264CNotLater': WHATEVER THE INPUT: true; the input reads as it did. -/
def lawS0264CNotLaterSpec : ChangeSpec := { name := "lawS0264CNotLater", fn := fun _ => fun
  | [d1, d2, d3] => { results := [.lit (.bool true)], args := [d1, d2, d3] }
  | _ => none }
def lawS0264CNotLaterRow : OpenClaim := { program := "ybulkele", sum := "d22e34decf2c5f22a2dac155a45956d1d0e247972f9dbe78ffeab698929d470b", func := "example.com/affinet/affinet.LawS0264CNotLater", spec := "lawS0264CNotLater", plainKeys := false, apart := false }
def LawS0264CNotLaterSaid : Prop := lawS0264CNotLaterRow.holds Yba.pinned (OpenSpec.ofChange lawS0264CNotLaterSpec)

/-- ITS FALSE NEIGHBOUR: 'it returns false'. Refute it at one input. -/
def lawS0264CNotLaterWrong : ChangeSpec := { name := "lawS0264CNotLater", fn := fun _ => fun
  | [d1, d2, d3] => { results := [.lit (.bool false)], args := [d1, d2, d3] }
  | _ => none }
def LawS0264CNotLaterWrongFalsely : Prop := lawS0264CNotLaterRow.holds Yba.pinned (OpenSpec.ofChange lawS0264CNotLaterWrong)

end Rows
end Go.Proofs.Ybulkele
