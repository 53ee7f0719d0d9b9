/-
  'LawS2191CToken': 'newRealClock'. Our own work over the given program.
-/
import Derived.Test.YbulkasiuWake
import Derived.WalkKit
import Derived.ProofKit
import Derived.Deep.DeepCutAuto
import Derived.Deep.RegionHeldLaw
import Derived.BigQuiet
import Derived.Conc.LoneCalls
namespace Go.Proofs.Ybulkasiu
open Go.RowKit Go.Conc

theorem mk57 (n : Nat) (hn : n ≤ 255) (w : World) : (Instr.makeChan 57 (.int .i64 n)).run Yba.prog w = .ok (.chan (some w.heap.size)) (w.alloc (.chan n #[] false 0 0 false)) := by
  have h : (Yba.prog.info? 35).map (·.bytes) = some 0 := by kernel_rfl
  obtain ⟨i, hi, hb⟩ := Option.map_eq_some_iff.1 h
  simpa using run_makeChan (P := Yba.prog) (w := w) Yba.underlying57 hi .i64 n (by omega) (by rw [hb]; omega)
theorem mk1 (w : World) : (Instr.makeChan 57 (.int .i64 1)).run Yba.prog w = .ok (.chan (some w.heap.size)) (w.alloc (.chan 1 #[] false 0 0 false)) := mk57 1 (by omega) w
theorem mk0 (w : World) : (Instr.makeChan 57 (.int .i64 0)).run Yba.prog w = .ok (.chan (some w.heap.size)) (w.alloc (.chan 0 #[] false 0 0 false)) := mk57 0 (by omega) w

/-- A chan's block. -/
abbrev Ch (n : Nat) : Obj := .chan n #[] false 0 0 false

/-- The clock as it is made. -/
def Clk (N : Nat) (w : World) (T a b d : Nat) (rn : Value) (buf : Array Value) (s : Nat) : Prop :=
  w.heap[T]? = some (.cells #[.chan (some a), .chan (some b), .chan (some d), rn] 59 (0, 0)) ∧ w.heap[a]? = some (.chan 1 buf false s 0 false) ∧ w.heap[b]? = some (Ch 0) ∧ w.heap[d]? = some (Ch 0) ∧
    N ≤ a ∧ (rn = .chan none ∨ ∃ g n, rn = .chan (some g) ∧ w.heap[g]? = some (Ch n) ∧ g ≠ a)

/-- What 'newRealClock' hands over. -/
def Made (w : World) (e : Ending) (w' : World) : Prop := ∃ T a b d rn, e = .returned (.pointer (some ⟨T, 0, none⟩)) ∧ Clk w.heap.size w' T a b d rn #[] 0 ∧ Below w.heap.size w w'

theorem clk_stay {N T a b d : Nat} {rn : Value} {buf : Array Value} {s : Nat} {w w' : World} (h : Clk N w T a b d rn buf s) (hb : Below w.heap.size w w') : Clk N w' T a b d rn buf s := by
  obtain ⟨h1, h2, h3, h4, h5, h6⟩ := h
  have k : ∀ {i : Nat} {o : Obj}, w.heap[i]? = some o → w'.heap[i]? = some o := fun {i o} hi => (hb.block i (lt_of_block hi)).trans hi
  refine ⟨k h1, k h2, k h3, k h4, h5, ?_⟩
  rcases h6 with rfl | ⟨g, n, rfl, hg, hne⟩
  · exact .inl rfl
  · exact .inr ⟨g, n, rfl, k hg, hne⟩

theorem heap4 (w : World) (o1 o2 o3 o4 : Obj) : ((((w.alloc o1).alloc o2).alloc o3).alloc o4).drew.heap[w.heap.size]? = some o1 ∧ ((((w.alloc o1).alloc o2).alloc o3).alloc o4).drew.heap[w.heap.size + 1]? = some o2 ∧
    ((((w.alloc o1).alloc o2).alloc o3).alloc o4).drew.heap[w.heap.size + 1 + 1]? = some o3 ∧ ((((w.alloc o1).alloc o2).alloc o3).alloc o4).drew.heap[w.heap.size + 1 + 1 + 1]? = some o4 ∧ Below w.heap.size w ((((w.alloc o1).alloc o2).alloc o3).alloc o4).drew := by
  have e : ∀ i : Nat, ((((w.alloc o1).alloc o2).alloc o3).alloc o4).drew.heap[i]? = ((((w.heap.push o1).push o2).push o3).push o4)[i]? := fun i => rfl
  refine ⟨?_, ?_, ?_, ?_, ((((Below.refl _ w).alloc (Nat.le_refl _) _).alloc (by simp) _).alloc (by simp <;> omega) _).alloc (by simp <;> omega) _ |>.drew⟩ <;> rw [e] <;> simp only [Array.getElem?_push, Array.size_push]
  all_goals repeat (first | rw [if_pos trivial] | rw [if_pos (by omega)] | rw [if_neg (by omega)])

theorem clk_run {N T a b d k : Nat} {w w0 : World} (h : Clk N w T a b d (.chan none) #[] 0) (hb : Below N w0 w) (hT : N ≤ T) : Clk N ((w.setCell ⟨T, 3, none⟩ (.chan (some w.heap.size))).alloc (Ch k)) T a b d (.chan (some w.heap.size)) #[] 0 ∧ Below N w0 ((w.setCell ⟨T, 3, none⟩ (.chan (some w.heap.size))).alloc (Ch k)) := by
  obtain ⟨h1, h2, h3, h4, h5, _⟩ := h
  have hl := lt_of_block h1
  have la := lt_of_block h2
  have hs : (w.setCell ⟨T, 3, none⟩ (.chan (some w.heap.size))).heap.size = w.heap.size := by simp
  have k0 : ∀ {i : Nat} {o : Obj}, i ≠ T → w.heap[i]? = some o → (w.setCell ⟨T, 3, none⟩ (.chan (some w.heap.size))).heap[i]? = some o := fun {i o} hi ho => (Below.heap_setCell _ _ _ _ (fun e => hi (by simpa using e))).trans ho
  have k1 : ∀ {i : Nat} {o : Obj}, (w.setCell ⟨T, 3, none⟩ (.chan (some w.heap.size))).heap[i]? = some o → ((w.setCell ⟨T, 3, none⟩ (.chan (some w.heap.size))).alloc (Ch k)).heap[i]? = some o := fun {i o} hi => (Below.heap_alloc _ _ _ (lt_of_block hi)).trans hi
  have n1 : a ≠ T := by rintro rfl; rw [h1] at h2; cases h2
  have n2 : b ≠ T := by rintro rfl; rw [h1] at h3; cases h3
  have n3 : d ≠ T := by rintro rfl; rw [h1] at h4; cases h4
  have hg := heap_alloc_new (w.setCell ⟨T, 3, none⟩ (.chan (some w.heap.size))) (Ch k)
  rw [hs] at hg
  refine ⟨⟨k1 ?_, k1 (k0 n1 h2), k1 (k0 n2 h3), k1 (k0 n3 h4), h5, .inr ⟨_, k, rfl, hg, by omega⟩⟩, ((hb.setCell hT _).alloc (by rw [hs]; omega) _)⟩
  simp only [World.setCell, Array.getElem?_modify, h1]
  simp

set_option maxRecDepth 100000 in
theorem newClock (n : Int) (w : World) (h1 : -128 ≤ n) (h2 : n ≤ 127) : Calls Yba.prog 9 #[.int .i64 n] w (Made w) := by
  have hm1 := mk1
  have hm0 := mk0
  go_enter Yba.func9, Yba.ntmps9
  go_upto_region 1 with fail
  go_cut [3] (fun s3 wx => ∃ T a b d, s3 = .pointer (some ⟨T, 0, none⟩) ∧ Clk w.heap.size wx T a b d (.chan none) #[] 0 ∧ w.heap.size ≤ T ∧ Below w.heap.size w wx)
  case first =>
    go_region
    all_goals go_wp2_with fail
    all_goals go_meet
    all_goals
      refine ⟨_, _, _, _, rfl, ⟨(heap4 w _ _ _ _).2.2.2.1, ?_, ?_, ?_, by omega, .inl rfl⟩, by omega, (heap4 w _ _ _ _).2.2.2.2⟩
      all_goals first | exact (heap4 w _ _ _ _).1 | exact (heap4 w _ _ _ _).2.1 | exact (heap4 w _ _ _ _).2.2.1
  case rest =>
  obtain ⟨T, a, b, d, rfl, hclk, hNT, hbel⟩ := hcut
  have hT := hclk.1
  have hs3 : wc.cell? ⟨T, 3, none⟩ = some (.chan none) := by simp [World.cell?, hT]
  have hTl := lt_of_block hT
  have hf3 : wc.frozen? ⟨T, 3, none⟩ = false := by simp [World.frozen?, hT]
  by_cases hn : 0 < n
  · obtain ⟨k, rfl⟩ : ∃ k : Nat, n = k := ⟨n.toNat, by omega⟩
    have hmk := mk57 k (by omega)
    go_wp2_with fail
    go_ret
    exact ⟨T, a, b, d, _, rfl, clk_run hclk hbel hNT⟩
  · go_wp2
    go_ret
    exact ⟨T, a, b, d, _, rfl, hclk, hbel⟩
end Go.Proofs.Ybulkasiu
