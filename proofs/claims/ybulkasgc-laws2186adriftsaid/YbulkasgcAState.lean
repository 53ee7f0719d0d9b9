/-
  'LawS2186AExact', 'LawS2186ADrift': the state of the Group that the laws make, as facts on the world. Our own work over the given program.
-/
import Derived.Test.YbulkasgcAParts
import Derived.Deep.DeepCutAuto
namespace Go.Proofs.Ybulkasgc
open Go.RowKit Go.WideMaps Go.Maps

/-- The cells of '&Group{pausedAt: .., drift: .., now: ..}'. -/
def gA (x y : Nat) (now : Int) : Array Value :=
  #[.int .i64 0, .int .i64 0, .int .i64 0, .int .i64 0, .string ⟨#[]⟩, .int .i64 0, .int .i64 0, .int .i64 0, .int .i64 0, .string ⟨#[]⟩, .string ⟨#[]⟩, .string ⟨#[]⟩, .string ⟨#[]⟩, .int .i64 now, .int .i64 0, .int .i64 0,
    .int .i64 0, .int .i64 0, .int .u64 0, .pointer none, .int .u64 0, .map none, .map none, .pointer none, .map none, .slice none 0 0, .slice none 0 0, .slice none 0 0, .map none, .map none, .slice none 0 0, .map none,
    .map none, .map none, .map none, .map (some y), .map none, .map none, .pointer none, .map none, .map none, .int .i64 0, .int .i64 0, .int .i64 0, .int .i64 0, .map none, .map none, .map none, .map (some x)]

theorem build66A (x y : Nat) (now : Int) (w : World) : (Instr.build 66 #[(33, .map (some x)), (23, .map (some y)), (5, .int .i64 now)]).run Yba.prog w = .ok (.agg (gA x y now)) w := by kernel_rfl

/-- The Group in block N + 2, 'pausedAt' in block N, 'drift' in block N + 1. -/
structure ASt (N : Nat) (w0 w : World) (now sil st : Int) (n nd : Nat) (Dp Dd : DataW Unit) : Prop where
  c1 : w.cell? ⟨N + 2, 1, none⟩ = some (.int .i64 sil)
  c13 : w.cell? ⟨N + 2, 13, none⟩ = some (.int .i64 now)
  c35 : w.cell? ⟨N + 2, 35, none⟩ = some (.map (some (N + 1)))
  c41 : w.cell? ⟨N + 2, 41, none⟩ = some (.int .i64 0)
  c42 : w.cell? ⟨N + 2, 42, none⟩ = some (.int .i64 0)
  c43 : w.cell? ⟨N + 2, 43, none⟩ = some (.int .i64 st)
  c44 : w.cell? ⟨N + 2, 44, none⟩ = some (.int .i64 0)
  c48 : w.cell? ⟨N + 2, 48, none⟩ = some (.map (some N))
  marks : ∀ o, w.frozen? ⟨N + 2, o, none⟩ = false
  op : w.ownsMap Yba.prog 9 (plainElem Yba.prog 25) N n Dp
  od : w.ownsMap Yba.prog 9 (plainElem Yba.prog 2) (N + 1) nd Dd
  below : Below N w0 w
  size : N + 2 < w.heap.size

theorem ast_start (w : World) (now : Int) : ASt w.heap.size w (((w.alloc (.map #[] 0)).alloc (.map #[] 0)).alloc (.cells (gA w.heap.size (w.heap.size + 1) now) 66)) now 0 0 0 0 (.map []) (.map []) := by
  have hcell : ∀ o, (((w.alloc (.map #[] 0)).alloc (.map #[] 0)).alloc (.cells (gA w.heap.size (w.heap.size + 1) now) 66)).cell? ⟨w.heap.size + 2, o, none⟩ = (gA w.heap.size (w.heap.size + 1) now)[o]? := by
    intro o
    exact World.cell?_alloc_at _ _ _ _ (by simp)
  refine ⟨(hcell _).trans rfl, (hcell _).trans rfl, (hcell _).trans rfl, (hcell _).trans rfl, (hcell _).trans rfl, (hcell _).trans rfl, (hcell _).trans rfl, (hcell _).trans rfl, ?_, ?_, ?_, ?_, by simp⟩
  · intro o
    exact World.frozen?_alloc_at _ _ _ _ (by simp)
  · exact ((World.ownsMap_made _ _ _ _).alloc _).alloc _
  · have := (World.ownsMap_made (H := Unit) (w.alloc (.map #[] 0)) Yba.prog 9 (plainElem Yba.prog 2)).alloc (.cells (gA w.heap.size (w.heap.size + 1) now) 66)
    simpa using this
  · exact (((Below.refl _ _).alloc (Nat.le_refl _) _).alloc (by simp) _).alloc (by simp <;> omega) _

section
variable {N : Nat} {w0 w w1 : World} {now sil st : Int} {n nd : Nat} {Dp Dd D : DataW Unit}

theorem ASt.put_paused (h : ASt N w0 w now sil st n nd Dp Dd) (hown : w1.ownsMap Yba.prog 9 (plainElem Yba.prog 25) N (n + 1) D) (hg : w.grownBy w1 (some N)) : ASt N w0 w1 now sil st (n + 1) nd D Dd := by
  obtain ⟨g1, g2⟩ := gcell hg h.size (by simp)
  exact ⟨(g1 _).trans h.c1, (g1 _).trans h.c13, (g1 _).trans h.c35, (g1 _).trans h.c41, (g1 _).trans h.c42, (g1 _).trans h.c43, (g1 _).trans h.c44, (g1 _).trans h.c48, fun o => (g2 o).trans (h.marks o), hown, h.od.kept hg (by simp),
    h.below.grown hg (by have := h.size; omega) (fun k hk => by cases hk; exact Nat.le_refl _), Nat.lt_of_lt_of_le h.size hg.size⟩

theorem ASt.del_paused (h : ASt N w0 w now sil st n nd Dp Dd) (hown : w1.ownsMap Yba.prog 9 (plainElem Yba.prog 25) N n D) (ht : w.mapTurned w1 N) : ASt N w0 w1 now sil st n nd D Dd := by
  have hg := ht.grown
  obtain ⟨g1, g2⟩ := gcell hg h.size (by simp)
  exact ⟨(g1 _).trans h.c1, (g1 _).trans h.c13, (g1 _).trans h.c35, (g1 _).trans h.c41, (g1 _).trans h.c42, (g1 _).trans h.c43, (g1 _).trans h.c44, (g1 _).trans h.c48, fun o => (g2 o).trans (h.marks o), hown, h.od.kept hg (by simp),
    h.below.grown hg (by have := h.size; omega) (fun k hk => by cases hk; exact Nat.le_refl _), Nat.lt_of_lt_of_le h.size hg.size⟩

theorem ASt.put_drift (h : ASt N w0 w now sil st n nd Dp Dd) (hown : w1.ownsMap Yba.prog 9 (plainElem Yba.prog 2) (N + 1) (nd + 1) D) (hg : w.grownBy w1 (some (N + 1))) : ASt N w0 w1 now sil st n (nd + 1) Dp D := by
  obtain ⟨g1, g2⟩ := gcell hg h.size (by simp)
  exact ⟨(g1 _).trans h.c1, (g1 _).trans h.c13, (g1 _).trans h.c35, (g1 _).trans h.c41, (g1 _).trans h.c42, (g1 _).trans h.c43, (g1 _).trans h.c44, (g1 _).trans h.c48, fun o => (g2 o).trans (h.marks o), h.op.kept hg (by simp), hown,
    h.below.grown hg (by have := h.size; omega) (fun k hk => by cases hk; omega), Nat.lt_of_lt_of_le h.size hg.size⟩

theorem ASt.mono (h : ASt N w0 w now sil st n nd Dp Dd) {n' nd' : Nat} (hn : n ≤ n') (hd : nd ≤ nd') : ASt N w0 w now sil st n' nd' Dp Dd :=
  ⟨h.c1, h.c13, h.c35, h.c41, h.c42, h.c43, h.c44, h.c48, h.marks, h.op.mono hn, h.od.mono hd, h.below, h.size⟩

/-- 'g.Timing.Silence = ..', 'g.hazards.PausesPastLease = ..'. -/
theorem ASt.set2 (h : ASt N w0 w now sil st n nd Dp Dd) (sil' st' : Int) : ASt N w0 ((w.setCell ⟨N + 2, 1, none⟩ (.int .i64 sil')).setCell ⟨N + 2, 43, none⟩ (.int .i64 st')) now sil' st' n nd Dp Dd := by
  have oth : ∀ (w : World) (o o' : Nat) (v : Value), o ≠ o' → (w.setCell ⟨N + 2, o, none⟩ v).cell? ⟨N + 2, o', none⟩ = w.cell? ⟨N + 2, o', none⟩ := fun w o o' v hne => World.cell?_setCell_other _ _ _ _ (fun e => hne (congrArg Addr.off e))
  have all : ∀ o, o ≠ 1 → o ≠ 43 → ((w.setCell ⟨N + 2, 1, none⟩ (.int .i64 sil')).setCell ⟨N + 2, 43, none⟩ (.int .i64 st')).cell? ⟨N + 2, o, none⟩ = w.cell? ⟨N + 2, o, none⟩ := by
    intro o h1 h2
    rw [oth _ _ _ _ h2.symm, oth _ _ _ _ h1.symm]
  refine ⟨?_, (all _ (by omega) (by omega)).trans h.c13, (all _ (by omega) (by omega)).trans h.c35, (all _ (by omega) (by omega)).trans h.c41, (all _ (by omega) (by omega)).trans h.c42, ?_, (all _ (by omega) (by omega)).trans h.c44, (all _ (by omega) (by omega)).trans h.c48, ?_, ?_, ?_, ?_, ?_⟩
  · rw [oth _ _ _ _ (by omega)]
    exact World.cell?_setCell_same _ _ _ h.c1
  · exact World.cell?_setCell_same (u := .int .i64 st) _ _ _ (by rw [oth _ _ _ _ (by omega)]; exact h.c43)
  · intro o
    simp only [World.frozen?_setCell]
    exact h.marks o
  · exact (h.op.setCell (by simp) _).setCell (by simp) _
  · exact (h.od.setCell (by simp) _).setCell (by simp) _
  · exact (h.below.setCell (by simp) _).setCell (by simp) _
  · simpa [World.setCell] using h.size

end

/-- 'pausedAt' behind 'for i, o := range others { g.pausedAt[o] = time.Duration(i) }', k rounds of it. -/
def foldP (ss : Nat → ByteArray) : Nat → DataW Unit
  | 0 => .map []
  | k + 1 => (foldP ss k).put (kl (ss k)) (.lit (.int .i64 k))

/-- 'pausedAt' as it is handed on. -/
def pausedD (ss : Nat → ByteArray) (len : Nat) (node : ByteArray) (present : Bool) (at_ : Int) : DataW Unit :=
  if present then (foldP ss len).put (kl node) (.lit (.int .i64 at_)) else (foldP ss len).del (kl node)

/-- 'drift' as it is handed on. -/
def driftD (node : ByteArray) (drift : Int) : DataW Unit := if drift = 0 then .map [] else (DataW.map []).put (kl node) (.lit (.int .i64 drift))

theorem kl_ne {a b : ByteArray} (h : a ≠ b) : kl a ≠ kl b := by
  intro e
  apply h
  injection e with e1
  cases a; cases b
  simp_all [Array.toList_inj]

theorem key_kl (a : ByteArray) : WideAt.IsKeyLit (kl a) := trivial

theorem foldP_map (ss : Nat → ByteArray) : ∀ k, IsMap (foldP ss k)
  | 0 => isMap_empty
  | k + 1 => (foldP_map ss k).put _ _

theorem foldP_has (ss : Nat → ByteArray) (j : Nat) : ∀ k, j < k → has (foldP ss k) (kl (ss j)) = true
  | k + 1, h => by
    show has ((foldP ss k).put (kl (ss k)) _) (kl (ss j)) = true
    by_cases e : ss j = ss k
    · rw [e]
      exact has_put_same (foldP_map ss k) (key_kl _) _
    · rw [has_put_other (kl_ne e)]
      refine foldP_has ss j k ?_
      by_cases hj : j = k
      · exact absurd (by rw [hj]) e
      · omega

theorem paused_node (ss : Nat → ByteArray) (len : Nat) (node : ByteArray) (present : Bool) (at_ : Int) : has (pausedD ss len node present at_) (kl node) = present := by
  cases present
  · exact has_del_same
  · exact has_put_same (foldP_map ss len) (key_kl _) _

theorem paused_at (ss : Nat → ByteArray) (len : Nat) (node : ByteArray) (at_ : Int) (z : DataW Unit) : (pausedD ss len node true at_).atKey (kl node) z = .lit (.int .i64 at_) :=
  atKey_put_same (foldP_map ss len) (key_kl _) _ _

theorem paused_other (ss : Nat → ByteArray) (len : Nat) (node : ByteArray) (present : Bool) (at_ : Int) (j : Nat) (hj : j < len) (hne : ss j ≠ node) : has (pausedD ss len node present at_) (kl (ss j)) = true := by
  cases present
  · exact (has_del_other (kl_ne hne)).trans (foldP_has ss j len hj)
  · exact (has_put_other (kl_ne hne) _).trans (foldP_has ss j len hj)

theorem drift_at (node : ByteArray) (drift : Int) : (driftD node drift).atKey (kl node) (.lit (.int .i64 0)) = .lit (.int .i64 drift) := by
  unfold driftD
  split
  · rename_i h
    rw [h]
    rfl
  · exact atKey_put_same isMap_empty (key_kl _) _ _

end Go.Proofs.Ybulkasgc
