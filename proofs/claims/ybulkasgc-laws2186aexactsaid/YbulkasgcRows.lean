/-
  No cell of these rows narrows 'for every input' (looked for: loops, veiled, ifaces, maps, wideKeys, modest, calm, conditions, laid).
  DERIVED. THE GIVEN ROWS OF THIS SEAT. 3 by the template 'for every input the law returns true; each argument reads behind the call as it read before'; 0 by the template 'total and deterministic' (their statements: YbulkasgcTotals.lean).
  GIVEN WITH THE SEED: the statements are not yours to turn. If you find one false, say at which input.
  Laid BY PROGRAM, IN A SANDBOX (cutbox-rows.mjs): the forced cells as the released guide's own fill.sh prints them over the translation b07d6bd13788759a… (all of the seat's roots in one cut). By AI agents, Wed Nov 11 2026. No macro, syntax, notation, axiom, sorry.
-/
import Derived.Test.YbulkasgcChecked
import GoSem.Claim
import GoSem.ClaimJoined
import GoSem.ClaimMapViews
import Derived.JoinedTies
import Derived.KernelRfl
namespace Go.Proofs.Ybulkasgc
/- THE CELL 'sum', in the pinned program and in every row, IS THE sha256 OF THE DUMP (.gsa) THAT YbulkasgcProg.lean LOADS. Nothing in Lean hashes anything: it is a label: what it is worth is what the hold of that sum in a sandbox is worth. -/
noncomputable def Yba.pinned : Pinned := { name := "ybulkasgc", sum := "b07d6bd13788759a5a31c81f9846adae1a6a676b8eb38e24acc8f85609c5e9a5", checked := Yba.checked }
namespace Rows
def none {H : Type} : Left H := { results := [], args := [] }

/-- 'sim.LawS2186AExact': WHATEVER THE INPUT: true; the input reads as it did. -/
def lawS2186AExactSpec : ChangeSpec := { name := "lawS2186AExact", fn := fun _ => fun
  | [d1, d2, d3, d4, d5, d6, d7] => { results := [.lit (.bool true)], args := [d1, d2, d3, d4, d5, d6, d7] }
  | _ => none }
def lawS2186AExactRow : OpenClaim := { program := "ybulkasgc", sum := "b07d6bd13788759a5a31c81f9846adae1a6a676b8eb38e24acc8f85609c5e9a5", func := "example.com/quorate/quorate/internal/sim.LawS2186AExact", spec := "lawS2186AExact", plainKeys := false, apart := false }
def LawS2186AExactSaid : Prop := lawS2186AExactRow.holds Yba.pinned (OpenSpec.ofChange lawS2186AExactSpec)

/-- ITS FALSE NEIGHBOUR: 'it returns false'. Refute it at one input. -/
def lawS2186AExactWrong : ChangeSpec := { name := "lawS2186AExact", fn := fun _ => fun
  | [d1, d2, d3, d4, d5, d6, d7] => { results := [.lit (.bool false)], args := [d1, d2, d3, d4, d5, d6, d7] }
  | _ => none }
def LawS2186AExactWrongFalsely : Prop := lawS2186AExactRow.holds Yba.pinned (OpenSpec.ofChange lawS2186AExactWrong)

/-- 'sim.LawS2186ADrift': WHATEVER THE INPUT: true; the input reads as it did. -/
def lawS2186ADriftSpec : ChangeSpec := { name := "lawS2186ADrift", fn := fun _ => fun
  | [d1, d2, d3, d4, d5, d6, d7, d8] => { results := [.lit (.bool true)], args := [d1, d2, d3, d4, d5, d6, d7, d8] }
  | _ => none }
def lawS2186ADriftRow : OpenClaim := { program := "ybulkasgc", sum := "b07d6bd13788759a5a31c81f9846adae1a6a676b8eb38e24acc8f85609c5e9a5", func := "example.com/quorate/quorate/internal/sim.LawS2186ADrift", spec := "lawS2186ADrift", plainKeys := false, apart := false }
def LawS2186ADriftSaid : Prop := lawS2186ADriftRow.holds Yba.pinned (OpenSpec.ofChange lawS2186ADriftSpec)

/-- ITS FALSE NEIGHBOUR: 'it returns false'. Refute it at one input. -/
def lawS2186ADriftWrong : ChangeSpec := { name := "lawS2186ADrift", fn := fun _ => fun
  | [d1, d2, d3, d4, d5, d6, d7, d8] => { results := [.lit (.bool false)], args := [d1, d2, d3, d4, d5, d6, d7, d8] }
  | _ => none }
def LawS2186ADriftWrongFalsely : Prop := lawS2186ADriftRow.holds Yba.pinned (OpenSpec.ofChange lawS2186ADriftWrong)

/-- 'sim.LawS2186BCounts': WHATEVER THE INPUT: true; the input reads as it did. -/
def lawS2186BCountsSpec : ChangeSpec := { name := "lawS2186BCounts", fn := fun _ => fun
  | [d1, d2, d3, d4, d5, d6, d7, d8, d9, d10, d11] => { results := [.lit (.bool true)], args := [d1, d2, d3, d4, d5, d6, d7, d8, d9, d10, d11] }
  | _ => none }
def lawS2186BCountsRow : OpenClaim := { program := "ybulkasgc", sum := "b07d6bd13788759a5a31c81f9846adae1a6a676b8eb38e24acc8f85609c5e9a5", func := "example.com/quorate/quorate/internal/sim.LawS2186BCounts", spec := "lawS2186BCounts", plainKeys := false, apart := false }
def LawS2186BCountsSaid : Prop := lawS2186BCountsRow.holds Yba.pinned (OpenSpec.ofChange lawS2186BCountsSpec)

/-- ITS FALSE NEIGHBOUR: 'it returns false'. Refute it at one input. -/
def lawS2186BCountsWrong : ChangeSpec := { name := "lawS2186BCounts", fn := fun _ => fun
  | [d1, d2, d3, d4, d5, d6, d7, d8, d9, d10, d11] => { results := [.lit (.bool false)], args := [d1, d2, d3, d4, d5, d6, d7, d8, d9, d10, d11] }
  | _ => none }
def LawS2186BCountsWrongFalsely : Prop := lawS2186BCountsRow.holds Yba.pinned (OpenSpec.ofChange lawS2186BCountsWrong)

end Rows
end Go.Proofs.Ybulkasgc
