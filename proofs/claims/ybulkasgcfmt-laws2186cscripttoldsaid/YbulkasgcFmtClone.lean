/-
  'slices.Clone' at a slice of strings; 'NewServing'. Our own work over the given program.
-/
import Derived.Test.YbulkasgcFmtCheck
namespace Go.Proofs.YbulkasgcFmt
open Go.RowKit

theorem info9 : (Ybaf.prog.info? 9).map (fun i => (i.zero, i.size, i.bytes)) = some (some (.string ⟨#[]⟩), 1, 16) := by kernel_rfl

/-- What the clone is: as long as what was cloned; where that is not empty its strings lie in new memory. -/
def Cloned (B : Nat) (w : World) (ss : List ByteArray) (v : Value) : Prop :=
  ∃ oa oc, v = .slice oa ss.length oc ∧ (0 < ss.length → ∃ g cur, oa = some ⟨g, 0, none⟩ ∧ B ≤ g ∧ w.heap[g]? = some (.cells cur 9 (0, 0)) ∧ ∀ (j : Nat) (u : Value), (ss.map Value.string)[j]? = some u → cur[j]? = some u)

set_option maxRecDepth 100000 in
set_option maxHeartbeats 400000 in
theorem clone_nil (w : World) : Calls Ybaf.prog 6 #[.slice none 0 0] w fun e w' => (∃ v, e = .returned v ∧ Cloned w.heap.size w' [] v) ∧ Below w.heap.size w w' := by
  have hq := fun w => run_eql_slice_nil (P := Ybaf.prog) w 25 9 none 0 0 Ybaf.underlying25
  go_enter Ybaf.func6, Ybaf.ntmps6
  go_wp2
  go_ret
  exact ⟨⟨_, rfl, none, 0, rfl, fun h => absurd h (by simp)⟩, Below.refl _ _⟩

set_option maxRecDepth 100000 in
set_option maxHeartbeats 400000 in
theorem clone_some (a : Addr) (oc : Nat) (ss : List ByteArray) (w : World) (hl : ss.length * 16 ≤ 140737488355328) (hc : ∀ j v, (ss.map Value.string)[j]? = some v → w.cell? (a.add j) = some v) (ha : 0 < ss.length → a.block < w.heap.size) :
    Calls Ybaf.prog 6 #[.slice (some a) ss.length oc] w fun e w' => (∃ v, e = .returned v ∧ Cloned w.heap.size w' ss v) ∧ Below w.heap.size w w' := by
  have hq := fun w => run_eql_slice_nil (P := Ybaf.prog) w 25 9 (some a) ss.length oc Ybaf.underlying25
  obtain ⟨i0, hi, hz0, hz1, hz2⟩ := info_parts info9
  have hown0 : (w.alloc (.cells #[] 9)).ownsRow w.heap.size 9 1 (.slice (some ⟨w.heap.size, 0, none⟩) 0 0) 0 [] := ⟨rfl, .inr ⟨w.heap.size, 0, #[], rfl, Nat.le_refl _, (MapKept.heap_alloc w _).1, Nat.le_refl _, Nat.zero_le _, rfl, rfl⟩⟩
  have hb0 := (Below.refl w.heap.size w).alloc (Nat.le_refl _) (.cells #[] 9)
  have HC : Hid (∀ j v, (ss.map Value.string)[j]? = some v → (w.alloc (.cells #[] 9)).cell? (a.add j) = some v) := by
    intro j v hj
    have hj' : j < ss.length := by
      have := (List.getElem?_eq_some_iff.1 hj).1
      simpa using this
    exact (hb0.cell (p := a.add j) (by unfold Addr.add; split <;> exact ha (by omega))).trans (hc j v hj)
  have HQ : Hid (∀ u ∈ ss.map Value.string, u.oneCell' = true) := by
    intro u hu
    obtain ⟨s, _, rfl⟩ := List.mem_map.1 hu
    rfl
  clear hc ha
  go_enter Ybaf.func6, Ybaf.ntmps6
  go_wp2_with (at_builtin; refine wpList_append_own _ rfl (.tmp 5) (.tmp 6) 25 rfl w.heap.size 9 i0 (.string ⟨#[]⟩) 1 16 Ybaf.underlying25 hi hz0 hz1 hz2 rfl (by decide) _ 0 [] rfl hown0 a ss.length oc (ss.map Value.string) rfl (by simp) HC.out HQ.out (by unfold maxLen; omega) (by omega) (by simp) ?_; intro v' w1 hown hgrow _)
  go_ret
  refine ⟨⟨v', rfl, ?_⟩, hb0.grown hgrow (by simp) (fun k hk => by cases hk; exact Nat.le_refl _)⟩
  obtain ⟨_, h | ⟨g, cp, cur, rfl, hBg, hh, _, _, _, htake⟩⟩ := hown
  · obtain ⟨rfl, h0⟩ := h
    exact ⟨none, 0, by rw [show ss.length = 0 by omega], fun h => absurd h (by omega)⟩
  · refine ⟨_, cp, by rw [Nat.zero_add], fun hp => ⟨g, cur, rfl, hBg, hh, fun j u hj => ?_⟩⟩
    have hj' : j < ss.length := by
      have := (List.getElem?_eq_some_iff.1 hj).1
      simpa using this
    rw [List.nil_append] at htake
    rw [← htake, List.getElem?_take, if_pos (by omega)] at hj
    simpa using hj

/-- What is known of a slice of strings that came in: it is nil; or its strings lie in memory. -/
def SrcOk (w : World) (oa : Option Addr) (on oc : Nat) (ss : List ByteArray) : Prop :=
  ss.length = on ∧ ((oa = none ∧ on = 0 ∧ oc = 0) ∨ ∃ a, oa = some a ∧ on * 16 ≤ 140737488355328 ∧ (0 < on → a.block < w.heap.size) ∧ ∀ j v, (ss.map Value.string)[j]? = some v → w.cell? (a.add j) = some v)

theorem clone_any (oa : Option Addr) (on oc : Nat) (ss : List ByteArray) (w w0 : World) (h : SrcOk w0 oa on oc ss) (hb : Below w0.heap.size w0 w) :
    Calls Ybaf.prog 6 #[.slice oa on oc] w fun e w' => (∃ v, e = .returned v ∧ Cloned w.heap.size w' ss v) ∧ Below w.heap.size w w' := by
  obtain ⟨rfl, ⟨rfl, h0, rfl⟩ | ⟨a, rfl, hl, ha, hc⟩⟩ := h
  · obtain rfl : ss = [] := List.eq_nil_of_length_eq_zero h0
    exact clone_nil w
  · refine clone_some a oc ss w hl (fun j v hj => ?_) (fun hp => Nat.lt_of_lt_of_le (ha hp) hb.size)
    have hj' : j < ss.length := by
      have := (List.getElem?_eq_some_iff.1 hj).1
      simpa using this
    exact (hb.cell (p := a.add j) (by unfold Addr.add; split <;> exact ha (by omega))).trans (hc j v hj)

set_option maxRecDepth 100000 in
set_option maxHeartbeats 400000 in
/-- 'NewServing'. -/
theorem newServing_any (w : World) : Calls Ybaf.prog 5 #[] w fun e w' => e = .returned (.pointer (some ⟨w.heap.size + 5, 0, none⟩)) ∧
    w' = (((((w.alloc (.map #[] 0)).alloc (.map #[] 0)).alloc (.map #[] 0)).alloc (.map #[] 0)).alloc (.map #[] 0)).alloc (.cells #[.map (some w.heap.size), .map (some (w.heap.size + 1)), .map (some (w.heap.size + 2)), .map (some (w.heap.size + 3)), .map (some (w.heap.size + 4)), .slice none 0 0] 36) := by
  have hmm := @run_makeMap Ybaf.prog
  go_enter Ybaf.func5, Ybaf.ntmps5
  go_wp2
  go_ret
  exact ⟨rfl, rfl⟩

end Go.Proofs.YbulkasgcFmt
