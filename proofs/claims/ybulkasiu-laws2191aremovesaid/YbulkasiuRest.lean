/-
  'LawS2191ARemove': the rest of the list, as the law gathers it; two occupancies compared. Our own work over the given program.
-/
import Derived.Test.YbulkasiuGone
import Derived.ChangeKeysEq
import Derived.OwnWalk
import Derived.Maps.AppendAt
namespace Go.Proofs.Ybulkasiu
open Go.RowKit
set_option linter.unusedVariables false

theorem info23 : (Yba.prog.info? 23).isSome = true := by kernel_rfl
theorem cells23 : Yba.prog.cellsOf 23 = 1 := by kernel_rfl

/-- An occupancy against itself. -/
theorem eql26 (f : Nat → Value) (w : World) : (binOp .eql 26 (occA f) (occA f)).run Yba.prog w = .ok (.bool true) w := by
  obtain ⟨j, hj⟩ := Option.isSome_iff_exists.1 info23
  have hp : ∀ i, i < 11 → (part 23 #[.int .u64 (gw f 0), .int .u64 (gw f 1), .int .u64 (gw f 2), .int .u64 (gw f 3), .int .u64 (gw f 4), .int .u64 (gw f 5), .int .u64 (gw f 6), .int .u64 (gw f 7), .int .u64 (gw f 8), .int .u64 (gw f 9), .int .u64 (gw f 10)] (i * 1)).run Yba.prog w = .ok (.int .u64 (gw f i)) w := by
    intro i hi
    rcases i with _ | _ | _ | _ | _ | _ | _ | _ | _ | _ | _ | i
    all_goals first | omega | simp [part, isAgg, run_underlying Yba.underlying23]
  have he : ∀ i, (Op.equalIn 9999 23 (.int .u64 (gw f i)) (.int .u64 (gw f i))).run Yba.prog w = .ok true w := fun i => by
    rw [run_equalIn_int w 9998 23 .u64 .u64 _ _ Yba.underlying23]
    simp
  have hs : ∀ is : List Nat, (∀ i ∈ is, i < 11) → (Op.eqItems 9999 23 1 #[.int .u64 (gw f 0), .int .u64 (gw f 1), .int .u64 (gw f 2), .int .u64 (gw f 3), .int .u64 (gw f 4), .int .u64 (gw f 5), .int .u64 (gw f 6), .int .u64 (gw f 7), .int .u64 (gw f 8), .int .u64 (gw f 9), .int .u64 (gw f 10)] #[.int .u64 (gw f 0), .int .u64 (gw f 1), .int .u64 (gw f 2), .int .u64 (gw f 3), .int .u64 (gw f 4), .int .u64 (gw f 5), .int .u64 (gw f 6), .int .u64 (gw f 7), .int .u64 (gw f 8), .int .u64 (gw f 9), .int .u64 (gw f 10)] is).run Yba.prog w = .ok true w := by
    intro is
    induction is with
    | nil => intro _; simp [Op.eqItems]
    | cons i is ih =>
      intro h
      simp only [Op.eqItems, Sem.run_bind, hp i (h i (by simp)), he i, Result.andThen_ok]
      simpa using ih fun j hj => h j (by simp [hj])
  rw [run_eql_struct, run_equalIn_array w 9999 _ _ Yba.underlying26 hj, cells23, hs (List.range 11) (fun i hi => by simpa using hi)]
  rfl

/-- How many of the first k are in the rest. -/
def rk (idx k : Nat) : Nat := if k ≤ idx then k else k - 1

/-- The rest's first m. -/
def rl (N idx m : Nat) : List Value := (List.range m).map fun j => ptr (qq N idx j)

theorem rl_more (N idx k : Nat) (h : k ≠ idx) : rl N idx (rk idx k) ++ [ptr (N + 4 + k)] = rl N idx (rk idx (k + 1)) := by
  have e : rk idx (k + 1) = rk idx k + 1 := by unfold rk; split <;> split <;> omega
  have e2 : qq N idx (rk idx k) = N + 4 + k := by
    unfold qq rk
    split <;> split <;> omega
  rw [e]
  unfold rl
  rw [List.range_succ, List.map_append, List.map_singleton, e2]

theorem rk_skip (idx : Nat) : rk idx (idx + 1) = rk idx idx := by unfold rk; split <;> split <;> omega
theorem rk_succ (idx k : Nat) (h : k ≠ idx) : rk idx k + 1 = rk idx (k + 1) := by unfold rk; split <;> split <;> omega
theorem rk_last {idx k : Nat} (h : idx < k) : rk idx k = k - 1 := by unfold rk; rw [if_neg (by omega)]
theorem rk_lt {idx k cnt : Nat} (h : k < cnt) : rk idx k + 1 ≤ cnt := by unfold rk; split <;> omega

/-- The state while the law gathers the rest. -/
structure Gath (w0 w : World) (N cnt sl idx M k : Nat) (n : Int) (f g : Nat → Value) : Prop where
  gone : Gone w0 w N cnt sl idx n f g
  own : w.ownsRow M 29 1 (.slice (some ⟨M, 0, none⟩) (rk idx k) cnt) (rk idx k) (rl N idx (rk idx k))
  base : N + 4 + cnt + 1 ≤ M
  room : M ≤ w.heap.size

theorem gath_start {w0 w w' : World} {N cnt sl idx : Nat} {n : Int} {f g : Nat → Value} (h : Gone w0 w N cnt sl idx n f g) (hi : idx < cnt) (ho : w'.ownsRow w.heap.size 29 1 (.slice (some ⟨w.heap.size, 0, none⟩) 0 cnt) 0 []) (hg : w.grownBy w' none) : Gath w0 w' N cnt sl idx w.heap.size 0 n f g := by
  have hs := h.size
  refine ⟨h.kept hi (fun b hb => hg.block b (by omega) (by simp)) hg.size (h.below.grown hg (by omega) (fun k hk => by cases hk)), ?_, hs, hg.size⟩
  simpa [rk, rl] using ho

theorem Gath.push {w0 w w' : World} {N cnt sl idx M k : Nat} {n : Int} {f g : Nat → Value} (h : Gath w0 w N cnt sl idx M k n f g) (hi : idx < cnt) (hk : k ≠ idx) {o : Obj} (ho : w'.ownsRow M 29 1 (.slice (some ⟨M, 0, none⟩) (rk idx k + 1) cnt) (rk idx k + 1) (rl N idx (rk idx k) ++ [ptr (N + 4 + k)])) (hg : (w.alloc o).grownBy w' (some M)) : Gath w0 w' N cnt sl idx M (k + 1) n f g := by
  have hs := h.gone.size
  have hb := h.base
  have hr := h.room
  have hsz := hg.size
  have e : (w.alloc o).heap.size = w.heap.size + 1 := by simp
  refine ⟨h.gone.kept hi (fun b hb' => (hg.block b (by omega) (by simp; omega)).trans (Below.heap_alloc _ _ _ (by omega))) (by omega) ((h.gone.below.alloc (by omega) o).grown hg (by omega) (fun k hk => by cases hk; omega)), ?_, hb, by omega⟩
  rw [rl_more _ _ _ hk, rk_succ _ _ hk] at ho
  exact ho

theorem Gath.skip {w0 w : World} {N cnt sl idx M : Nat} {n : Int} {f g : Nat → Value} (h : Gath w0 w N cnt sl idx M idx n f g) : Gath w0 w N cnt sl idx M (idx + 1) n f g := by
  refine ⟨h.gone, ?_, h.base, h.room⟩
  rw [rk_skip]
  exact h.own

theorem Gath.cells {w0 w : World} {N cnt sl idx M k : Nat} {n : Int} {f g : Nat → Value} (h : Gath w0 w N cnt sl idx M k n f g) : ∀ i, i < rk idx k → w.cell? ⟨M, i, none⟩ = some (ptr (qq N idx i)) := by
  intro i hi
  obtain ⟨_, h1 | ⟨g', cp, cur, hv, _, hh, _, _, _, ht⟩⟩ := h.own
  · cases h1.1
  · simp only [Value.slice.injEq, Option.some.injEq, Addr.mk.injEq] at hv
    obtain ⟨⟨rfl, _⟩, _, _⟩ := hv
    have e : (rl N idx (rk idx k))[i]? = some (ptr (qq N idx i)) := by simp [rl, hi]
    rw [← ht, List.getElem?_take_of_lt (by omega), Array.getElem?_toList] at e
    simp only [World.cell?, hh]
    simpa using e
end Go.Proofs.Ybulkasiu
