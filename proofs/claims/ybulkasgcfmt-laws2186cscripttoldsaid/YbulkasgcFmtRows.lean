/-
  No cell of these rows narrows 'for every input' (looked for: loops, veiled, ifaces, maps, wideKeys, modest, calm, conditions, laid).
  DERIVED. THE GIVEN ROWS OF THIS SEAT. 2 by the template 'for every input the law returns true; each argument reads behind the call as it read before'; 0 by the template 'total and deterministic' (their statements: YbulkasgcFmtTotals.lean).
  GIVEN WITH THE SEED: the statements are not yours to turn. If you find one false, say at which input.
  Laid BY PROGRAM, IN A SANDBOX (cutbox-rows.mjs): the forced cells as the released guide's own fill.sh prints them over the translation 8fcf3117d3298492… (all of the seat's roots in one cut). By AI agents, Wed Nov 11 2026. No macro, syntax, notation, axiom, sorry.
-/
import Derived.Test.YbulkasgcFmtChecked
import GoSem.Claim
import GoSem.ClaimJoined
import GoSem.ClaimMapViews
import Derived.JoinedTies
import Derived.KernelRfl
namespace Go.Proofs.YbulkasgcFmt
/- THE CELL 'sum', in the pinned program and in every row, IS THE sha256 OF THE DUMP (.gsa) THAT YbulkasgcFmtProg.lean LOADS. Nothing in Lean hashes anything: it is a label: what it is worth is what the hold of that sum in a sandbox is worth. -/
noncomputable def Ybaf.pinned : Pinned := { name := "ybulkasgcfmt", sum := "8fcf3117d329849256bf65805190838d9bec12d009ac79c9968f4d463e984cfe", checked := Ybaf.checked }
namespace Rows
def none {H : Type} : Left H := { results := [], args := [] }

/-- 'sim.LawS2186CCount': WHATEVER THE INPUT: true; the input reads as it did. -/
def lawS2186CCountSpec : ChangeSpec := { name := "lawS2186CCount", fn := fun _ => fun
  | [d1, d2] => { results := [.lit (.bool true)], args := [d1, d2] }
  | _ => none }
def lawS2186CCountRow : OpenClaim := { program := "ybulkasgcfmt", sum := "8fcf3117d329849256bf65805190838d9bec12d009ac79c9968f4d463e984cfe", func := "example.com/quorate/quorate/internal/sim.LawS2186CCount", spec := "lawS2186CCount", stops := ["fmt.errorf, its operands' methods called"], inPlace := ["fmt.errorf"], unfollowed := true, recurses := true, apart := false }
/-- NO THEOREM (fmt's text is open here; it may be false): for the released tool's asking of the row's closed facts alone. THE STATEMENT IS 'LawS2186CCountToldSaid' (YbulkasgcFmtCards.lean). -/
def LawS2186CCountFormAsk : Prop := lawS2186CCountRow.holds Ybaf.pinned (OpenSpec.ofChange lawS2186CCountSpec)

/-- ITS FALSE NEIGHBOUR: 'it returns false'. Refute it at one input. -/
def lawS2186CCountWrong : ChangeSpec := { name := "lawS2186CCount", fn := fun _ => fun
  | [d1, d2] => { results := [.lit (.bool false)], args := [d1, d2] }
  | _ => none }
def LawS2186CCountWrongFormAsk : Prop := lawS2186CCountRow.holds Ybaf.pinned (OpenSpec.ofChange lawS2186CCountWrong)

/-- 'sim.LawS2186CScript': WHATEVER THE INPUT: true; the input reads as it did. -/
def lawS2186CScriptSpec : ChangeSpec := { name := "lawS2186CScript", fn := fun _ => fun
  | [d] => { results := [.lit (.bool true)], args := [d] }
  | _ => none }
def lawS2186CScriptRow : OpenClaim := { program := "ybulkasgcfmt", sum := "8fcf3117d329849256bf65805190838d9bec12d009ac79c9968f4d463e984cfe", func := "example.com/quorate/quorate/internal/sim.LawS2186CScript", spec := "lawS2186CScript", stops := ["fmt.errorf, its operands' methods called"], inPlace := ["fmt.errorf"], unfollowed := true, recurses := true, apart := false }
/-- NO THEOREM (fmt's text is open here; it may be false): for the released tool's asking of the row's closed facts alone. THE STATEMENT IS 'LawS2186CScriptToldSaid' (YbulkasgcFmtCards.lean). -/
def LawS2186CScriptFormAsk : Prop := lawS2186CScriptRow.holds Ybaf.pinned (OpenSpec.ofChange lawS2186CScriptSpec)

/-- ITS FALSE NEIGHBOUR: 'it returns false'. Refute it at one input. -/
def lawS2186CScriptWrong : ChangeSpec := { name := "lawS2186CScript", fn := fun _ => fun
  | [d] => { results := [.lit (.bool false)], args := [d] }
  | _ => none }
def LawS2186CScriptWrongFormAsk : Prop := lawS2186CScriptRow.holds Ybaf.pinned (OpenSpec.ofChange lawS2186CScriptWrong)

end Rows
end Go.Proofs.YbulkasgcFmt
