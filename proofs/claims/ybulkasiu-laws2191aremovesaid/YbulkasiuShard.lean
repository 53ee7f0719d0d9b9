/-
  'LawS2191ARemove': a new shard's cells, and a shard's block by a function of its cells. Our own work over the given program.
-/
import Derived.Test.YbulkasiuRows
import Derived.Laws.Rows
import Derived.KernelRfl
import Derived.Below
import Derived.WalkKit
import Derived.ProofKit
namespace Go.Proofs.Ybulkasiu
open Go.RowKit

/-- The cells of a new shard: levels' cur at 4, n at 5, occupied at 6 to 16, slots at 17 to 722. -/
def shardZ (x : Value) : Array Value := #[.pointer none, .int .i64 0, .int .i32 0, .int .u32 0, .int .u64 0, .int .i64 0] ++ Array.replicate 11 (.int .u64 0) ++ Array.replicate 706 (.pointer none) ++ #[x, .bool false, .int .i64 0, .int .u64 0, .int .u64 0, .int .u64 0]

theorem build46 (x : Nat) (w : World) : (Instr.build 46 #[(4, .map (some x))]).run Yba.prog w = .ok (.agg (shardZ (.map (some x)))) w := by kernel_rfl

/-- The shard in block S holds 'f o' in each of its 729 cells. -/
def ShardAt (w : World) (S : Nat) (f : Nat → Value) : Prop := ∃ cs : Array Value, w.heap[S]? = some (.cells cs 46 (0, 0)) ∧ cs.size = 729 ∧ ∀ o, o < 729 → cs[o]? = some (f o)

theorem ShardAt.cell {w : World} {S : Nat} {f : Nat → Value} (h : ShardAt w S f) {o : Nat} (ho : o < 729) : w.cell? ⟨S, o, none⟩ = some (f o) := by
  obtain ⟨cs, h1, h2, h3⟩ := h
  simp [World.cell?, h1, h3 o ho]

theorem ShardAt.mark {w : World} {S : Nat} {f : Nat → Value} (h : ShardAt w S f) (o : Nat) : w.frozen? ⟨S, o, none⟩ = false := by
  obtain ⟨cs, h1, _⟩ := h
  simp [World.frozen?, h1]

theorem ShardAt.set {w : World} {S : Nat} {f : Nat → Value} (h : ShardAt w S f) (o : Nat) (u : Value) : ShardAt (w.setCell ⟨S, o, none⟩ u) S (fun i => if i = o then u else f i) := by
  obtain ⟨cs, h1, h2, h3⟩ := h
  refine ⟨cs.setIfInBounds o u, ?_, by simp [h2], fun i hi => ?_⟩
  · simp only [World.setCell, Array.getElem?_modify, h1]
    simp
  · by_cases e : i = o
    · subst e
      simp [h2, hi]
    · rw [Array.getElem?_setIfInBounds_ne (Ne.symm e), h3 i hi]
      dsimp only
      rw [if_neg e]

theorem ShardAt.other {w : World} {S : Nat} {f : Nat → Value} (h : ShardAt w S f) {a : Addr} (ha : S ≠ a.block) (u : Value) : ShardAt (w.setCell a u) S f := by
  obtain ⟨cs, h1, h2⟩ := h
  exact ⟨cs, (Below.heap_setCell _ _ _ _ ha).trans h1, h2⟩

theorem ShardAt.kept {w w' : World} {S : Nat} {f : Nat → Value} (h : ShardAt w S f) (hb : Below w.heap.size w w') : ShardAt w' S f := by
  obtain ⟨cs, h1, h2⟩ := h
  exact ⟨cs, (hb.block S (lt_of_block h1)).trans h1, h2⟩

/-- A timer in block T: its neighbours and its slot. -/
def TimerAt (w : World) (T : Nat) (prev next : Value) (slot : Int) : Prop := ∃ a b c d e g, w.heap[T]? = some (.cells #[a, b, c, prev, next, .int .i32 slot, d, e, g] 48 (0, 0))

theorem TimerAt.other {w : World} {T : Nat} {prev next : Value} {slot : Int} (h : TimerAt w T prev next slot) {a : Addr} (ha : T ≠ a.block) (u : Value) : TimerAt (w.setCell a u) T prev next slot := by
  obtain ⟨a0, b, c, d, e, g, h1⟩ := h
  exact ⟨a0, b, c, d, e, g, (Below.heap_setCell _ _ _ _ ha).trans h1⟩

theorem TimerAt.kept {w w' : World} {T : Nat} {prev next : Value} {slot : Int} (h : TimerAt w T prev next slot) (hb : Below w.heap.size w w') : TimerAt w' T prev next slot := by
  obtain ⟨a0, b, c, d, e, g, h1⟩ := h
  exact ⟨a0, b, c, d, e, g, (hb.block T (lt_of_block h1)).trans h1⟩

theorem TimerAt.cells {w : World} {T : Nat} {prev next : Value} {slot : Int} (h : TimerAt w T prev next slot) : w.cell? ⟨T, 3, none⟩ = some prev ∧ w.cell? ⟨T, 4, none⟩ = some next ∧ w.cell? ⟨T, 5, none⟩ = some (.int .i32 slot) ∧ w.frozen? ⟨T, 3, none⟩ = false ∧ w.frozen? ⟨T, 4, none⟩ = false ∧ w.frozen? ⟨T, 5, none⟩ = false := by
  obtain ⟨a0, b, c, d, e, g, h1⟩ := h
  simp [World.cell?, World.frozen?, h1]

theorem TimerAt.setPrev {w : World} {T : Nat} {prev next : Value} {slot : Int} (h : TimerAt w T prev next slot) (u : Value) : TimerAt (w.setCell ⟨T, 3, none⟩ u) T u next slot := by
  obtain ⟨a0, b, c, d, e, g, h1⟩ := h
  refine ⟨a0, b, c, d, e, g, ?_⟩
  simp only [World.setCell, Array.getElem?_modify, h1]
  simp

theorem TimerAt.setNext {w : World} {T : Nat} {prev next : Value} {slot : Int} (h : TimerAt w T prev next slot) (u : Value) : TimerAt (w.setCell ⟨T, 4, none⟩ u) T prev u slot := by
  obtain ⟨a0, b, c, d, e, g, h1⟩ := h
  refine ⟨a0, b, c, d, e, g, ?_⟩
  simp only [World.setCell, Array.getElem?_modify, h1]
  simp

theorem TimerAt.setSlot {w : World} {T : Nat} {prev next : Value} {slot : Int} (h : TimerAt w T prev next slot) (u : Int) : TimerAt (w.setCell ⟨T, 5, none⟩ (.int .i32 u)) T prev next u := by
  obtain ⟨a0, b, c, d, e, g, h1⟩ := h
  refine ⟨a0, b, c, d, e, g, ?_⟩
  simp only [World.setCell, Array.getElem?_modify, h1]
  simp
end Go.Proofs.Ybulkasiu
