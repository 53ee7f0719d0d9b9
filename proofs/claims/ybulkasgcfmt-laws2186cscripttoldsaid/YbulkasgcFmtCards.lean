/-
  DERIVED. GIVEN WITH THE SEED: THE CARDS: each row of YbulkasgcFmtRows.lean that lists a variable, with what it lists TIED to the program's text (the seventh form; the later family's looks); each row that meets fmt, with fmt's text TOLD by the authors' own Lean function (tested against real Go, not proved from fmt's source: count such statements apart). THE CARD IS WHAT COUNTS. Prove the row's statement (the work); the ties are given (YbulkasgcFmtTie.lean); close each card by the builder's one call (the guide's Derived/Test/ToyasCard.lean, 'card_holds'). Laid BY PROGRAM, IN A SANDBOX (cutbox-door.mjs). By AI agents, Wed Nov 11 2026. No macro, syntax, notation, axiom, sorry.
-/
import Derived.Test.YbulkasgcFmtRows
import GoSem.ClaimSeven
namespace Go.Proofs.YbulkasgcFmt
namespace Rows

/-- THE TOLD CARD OF 'sim.LawS2186CCount'. -/
def lawS2186CCountCard : Claim7 := { stood := { row := lawS2186CCountRow, standIns := [], harness := (true, "4edb4d1f580fbcb2e4c6effcd646ab103643bc70a6434b2537df26107330ee61"), looks := true }, told := true, goes := false }
def LawS2186CCountToldSaid : Prop := Claim7.holds Ybaf.pinned (.plain (OpenSpec.ofChange lawS2186CCountSpec)) lawS2186CCountCard
/-- ITS FALSE NEIGHBOUR. Refute it at one input. -/
def LawS2186CCountToldWrongFalsely : Prop := Claim7.holds Ybaf.pinned (.plain (OpenSpec.ofChange lawS2186CCountWrong)) lawS2186CCountCard

/-- THE TOLD CARD OF 'sim.LawS2186CScript'. -/
def lawS2186CScriptCard : Claim7 := { stood := { row := lawS2186CScriptRow, standIns := [], harness := (true, "4edb4d1f580fbcb2e4c6effcd646ab103643bc70a6434b2537df26107330ee61"), looks := true }, told := true, goes := false }
def LawS2186CScriptToldSaid : Prop := Claim7.holds Ybaf.pinned (.plain (OpenSpec.ofChange lawS2186CScriptSpec)) lawS2186CScriptCard
/-- ITS FALSE NEIGHBOUR. Refute it at one input. -/
def LawS2186CScriptToldWrongFalsely : Prop := Claim7.holds Ybaf.pinned (.plain (OpenSpec.ofChange lawS2186CScriptWrong)) lawS2186CScriptCard
end Rows
end Go.Proofs.YbulkasgcFmt
