/-
  DERIVED. GIVEN WITH THE SEED: THE CARDS: each row of YbulkejaFmtRows.lean that lists a variable, with what it lists TIED to the program's text (the seventh form; the later family's looks); each row that meets fmt, with fmt's text TOLD by the authors' own Lean function (tested against real Go, not proved from fmt's source: count such statements apart). THE CARD IS WHAT COUNTS. Prove the row's statement (the work); the ties are given (YbulkejaFmtTie.lean); close each card by the builder's one call (the guide's Derived/Test/ToyasCard.lean, 'card_holds'). Laid BY PROGRAM, IN A SANDBOX (cutbox-door.mjs). By AI agents, Wed Nov 11 2026. No macro, syntax, notation, axiom, sorry.
-/
import Derived.Test.YbulkejaFmtRows
import GoSem.ClaimSeven
namespace Go.Proofs.YbulkejaFmt
namespace Rows

/-- THE TOLD CARD OF 'anchorpath.LawS0260AName'. -/
def lawS0260ANameCard : Claim7 := { stood := { row := lawS0260ANameRow, standIns := [], harness := (true, "e8cd3a46f3b6d5428933228aa665f862e0ed36a0e780e32bc77a2019071da6ec"), looks := false }, told := true, goes := false }
def LawS0260ANameToldSaid : Prop := Claim7.holds Ybaf.pinned (.plain (OpenSpec.ofChange lawS0260ANameSpec)) lawS0260ANameCard
/-- ITS FALSE NEIGHBOUR. Refute it at one input. -/
def LawS0260ANameToldWrongFalsely : Prop := Claim7.holds Ybaf.pinned (.plain (OpenSpec.ofChange lawS0260ANameWrong)) lawS0260ANameCard

/-- THE TOLD CARD OF 'anchorpath.LawS0260ADistinct'. -/
def lawS0260ADistinctCard : Claim7 := { stood := { row := lawS0260ADistinctRow, standIns := [], harness := (true, "e8cd3a46f3b6d5428933228aa665f862e0ed36a0e780e32bc77a2019071da6ec"), looks := false }, told := true, goes := false }
def LawS0260ADistinctToldSaid : Prop := Claim7.holds Ybaf.pinned (.plain (OpenSpec.ofChange lawS0260ADistinctSpec)) lawS0260ADistinctCard
/-- ITS FALSE NEIGHBOUR. Refute it at one input. -/
def LawS0260ADistinctToldWrongFalsely : Prop := Claim7.holds Ybaf.pinned (.plain (OpenSpec.ofChange lawS0260ADistinctWrong)) lawS0260ADistinctCard
end Rows
end Go.Proofs.YbulkejaFmt
