/-
  No cell of these rows narrows 'for every input' (looked for: loops, veiled, ifaces, maps, wideKeys, modest, calm, conditions, laid).
  DERIVED. THE GIVEN ROWS OF THIS SEAT. 3 by the template 'for every input the law returns true; each argument reads behind the call as it read before'; 0 by the template 'total and deterministic' (their statements: YbulkasiuTotals.lean).
  GIVEN WITH THE SEED: the statements are not yours to turn. If you find one false, say at which input.
  Laid BY PROGRAM, IN A SANDBOX (cutbox-rows.mjs): the forced cells as the released guide's own fill.sh prints them over the translation 4ce467fdbac0530d… (all of the seat's roots in one cut). By AI agents, Wed Nov 11 2026. No macro, syntax, notation, axiom, sorry.
-/
import Derived.Test.YbulkasiuChecked
import GoSem.Claim
import GoSem.ClaimJoined
import GoSem.ClaimMapViews
import Derived.JoinedTies
import Derived.KernelRfl
namespace Go.Proofs.Ybulkasiu
/- THE CELL 'sum', in the pinned program and in every row, IS THE sha256 OF THE DUMP (.gsa) THAT YbulkasiuProg.lean LOADS. Nothing in Lean hashes anything: it is a label: what it is worth is what the hold of that sum in a sandbox is worth. -/
noncomputable def Yba.pinned : Pinned := { name := "ybulkasiu", sum := "4ce467fdbac0530df77a4b4abf79d3652b59ef4b92a3c95dada74dd33ff8a812", checked := Yba.checked }
namespace Rows
def none {H : Type} : Left H := { results := [], args := [] }

/-- 'ixion.LawS2191ARemove': WHATEVER THE INPUT: true; the input reads as it did. -/
def lawS2191ARemoveSpec : ChangeSpec := { name := "lawS2191ARemove", fn := fun _ => fun
  | [d1, d2, d3, d4, d5] => { results := [.lit (.bool true)], args := [d1, d2, d3, d4, d5] }
  | _ => none }
def lawS2191ARemoveRow : OpenClaim := { program := "ybulkasiu", sum := "4ce467fdbac0530df77a4b4abf79d3652b59ef4b92a3c95dada74dd33ff8a812", func := "example.com/ixion/ixion.LawS2191ARemove", spec := "lawS2191ARemove", apart := false }
def LawS2191ARemoveSaid : Prop := lawS2191ARemoveRow.holds Yba.pinned (OpenSpec.ofChange lawS2191ARemoveSpec)

/-- ITS FALSE NEIGHBOUR: 'it returns false'. Refute it at one input. -/
def lawS2191ARemoveWrong : ChangeSpec := { name := "lawS2191ARemove", fn := fun _ => fun
  | [d1, d2, d3, d4, d5] => { results := [.lit (.bool false)], args := [d1, d2, d3, d4, d5] }
  | _ => none }
def LawS2191ARemoveWrongFalsely : Prop := lawS2191ARemoveRow.holds Yba.pinned (OpenSpec.ofChange lawS2191ARemoveWrong)

/-- 'ixion.LawS2191ANotPending': WHATEVER THE INPUT: true; the input reads as it did. -/
def lawS2191ANotPendingSpec : ChangeSpec := { name := "lawS2191ANotPending", fn := fun _ => fun
  | [d1, d2, d3, d4] => { results := [.lit (.bool true)], args := [d1, d2, d3, d4] }
  | _ => none }
def lawS2191ANotPendingRow : OpenClaim := { program := "ybulkasiu", sum := "4ce467fdbac0530df77a4b4abf79d3652b59ef4b92a3c95dada74dd33ff8a812", func := "example.com/ixion/ixion.LawS2191ANotPending", spec := "lawS2191ANotPending", apart := false }
def LawS2191ANotPendingSaid : Prop := lawS2191ANotPendingRow.holds Yba.pinned (OpenSpec.ofChange lawS2191ANotPendingSpec)

/-- ITS FALSE NEIGHBOUR: 'it returns false'. Refute it at one input. -/
def lawS2191ANotPendingWrong : ChangeSpec := { name := "lawS2191ANotPending", fn := fun _ => fun
  | [d1, d2, d3, d4] => { results := [.lit (.bool false)], args := [d1, d2, d3, d4] }
  | _ => none }
def LawS2191ANotPendingWrongFalsely : Prop := lawS2191ANotPendingRow.holds Yba.pinned (OpenSpec.ofChange lawS2191ANotPendingWrong)

/-- 'ixion.LawS2191CToken': WHATEVER THE INPUT: true; the input reads as it did. -/
def lawS2191CTokenSpec : ChangeSpec := { name := "lawS2191CToken", fn := fun _ => fun
  | [d1, d2] => { results := [.lit (.bool true)], args := [d1, d2] }
  | _ => none }
def lawS2191CTokenRow : OpenClaim := { program := "ybulkasiu", sum := "4ce467fdbac0530df77a4b4abf79d3652b59ef4b92a3c95dada74dd33ff8a812", func := "example.com/ixion/ixion.LawS2191CToken", spec := "lawS2191CToken", apart := false }
def LawS2191CTokenSaid : Prop := lawS2191CTokenRow.holds Yba.pinned (OpenSpec.ofChange lawS2191CTokenSpec)

/-- ITS FALSE NEIGHBOUR: 'it returns false'. Refute it at one input. -/
def lawS2191CTokenWrong : ChangeSpec := { name := "lawS2191CToken", fn := fun _ => fun
  | [d1, d2] => { results := [.lit (.bool false)], args := [d1, d2] }
  | _ => none }
def LawS2191CTokenWrongFalsely : Prop := lawS2191CTokenRow.holds Yba.pinned (OpenSpec.ofChange lawS2191CTokenWrong)

end Rows
end Go.Proofs.Ybulkasiu
