/-
  'LawS2191ARemove': what 'unplace' leaves of the list that was built. Our own work over the given program.
-/
import Derived.Test.YbulkasiuBuild
namespace Go.Proofs.Ybulkasiu
open Go.RowKit
set_option linter.unusedVariables false

/-- The rest of the list: without the idx-th. -/
def qq (N idx j : Nat) : Nat := if j < idx then N + 4 + j else N + 4 + (j + 1)

/-- The neighbours of the t-th once the idx-th is gone. -/
def pvG (N idx t : Nat) : Value := if t = idx + 1 then pv (bq N) idx else pv (bq N) t
def nxG (N cnt idx t : Nat) : Value := if t + 1 = idx then nx (bq N) cnt idx else nx (bq N) cnt t

theorem pvG_eq (N idx j : Nat) : pvG N idx (if j < idx then j else j + 1) = pv (qq N idx) j := by
  simp only [pvG, pv, bq, qq]
  repeat' split
  all_goals first | rfl | omega | (apply congrArg ptr; omega)

theorem nxG_eq (N cnt idx j : Nat) (hj : j < cnt - 1) (hi : idx < cnt) : nxG N cnt idx (if j < idx then j else j + 1) = nx (qq N idx) (cnt - 1) j := by
  simp only [nxG, nx, bq, qq]
  repeat' split
  all_goals first | rfl | omega | (apply congrArg ptr; omega)

theorem qq_eq (N idx j : Nat) : qq N idx j = N + 4 + (if j < idx then j else j + 1) := by
  unfold qq
  split <;> rfl

/-! ### A timer unlinked -/
theorem cut_self {w : World} {T : Nat} {p n : Value} {s : Int} (h : TimerAt w T p n s) : TimerAt (cutW w T) T (.pointer none) (.pointer none) (-1) := ((h.setPrev _).setNext _).setSlot _

theorem cut_heap (w : World) (T g : Nat) (h : g ≠ T) : (cutW w T).heap[g]? = w.heap[g]? := by
  unfold cutW
  rw [set_other _ _ _ _ h, set_other _ _ _ _ h, set_other _ _ _ _ h]

theorem cut_size (w : World) (T : Nat) : (cutW w T).heap.size = w.heap.size := by simp [cutW]

theorem cut_below {w0 w : World} {N T : Nat} (h : Below N w0 w) (hT : N ≤ T) : Below N w0 (cutW w T) := ((h.setCell hT _).setCell hT _).setCell hT _

/-- The list stands, and the copy of the occupancy. -/
structure Ready (w0 w : World) (N cnt sl : Nat) (n : Int) (f : Nat → Value) : Prop where
  shard : ShardAt w (N + 2) f
  row : RowAt w (N + 3) cnt (rowK N cnt)
  tim : ∀ i, i < cnt → TimerAt w (N + 4 + i) (pv (bq N) i) (nx (bq N) cnt i) sl
  dup : w.heap[N + 4 + cnt]? = some (.cells #[.int .u64 (gw f 0), .int .u64 (gw f 1), .int .u64 (gw f 2), .int .u64 (gw f 3), .int .u64 (gw f 4), .int .u64 (gw f 5), .int .u64 (gw f 6), .int .u64 (gw f 7), .int .u64 (gw f 8), .int .u64 (gw f 9), .int .u64 (gw f 10)] 26 (0, 0))
  size : w.heap.size = N + 4 + cnt + 1
  below : Below N w0 w
  fst : FSt f n sl 11 (ptr (N + 4))

theorem ready_of {w0 w : World} {N cnt sl : Nat} {n : Int} {f : Nat → Value} (h : Built w0 w N cnt sl n f) : Ready w0 (fill11 (w.alloc z11) (N + 4 + cnt) f) N cnt sl n f := by
  have hs := h.size
  have k : ∀ g, g < w.heap.size → (fill11 (w.alloc z11) (N + 4 + cnt) f).heap[g]? = w.heap[g]? := fun g hg => (fill11_other _ _ _ _ (by omega)).trans (Below.heap_alloc _ _ _ hg)
  refine ⟨h.shard.same (k _ (by omega)), h.row.same (k _ (by omega)), fun i hi => ?_, fill11_at ?_ f, ?_, fill11_below (h.below.alloc (by omega) _) (by omega) f, h.fst⟩
  · have := (h.tim i hi).same (k _ (by omega))
    simpa only [prK, ntK, if_pos hi] using this
  · rw [← hs]
    exact (MapKept.heap_alloc w _).1
  · rw [fill11_size]
    simp [hs]

/-- What 'unlink' leaves of the shard's cells. -/
def fU (f : Nat → Value) (N cnt sl idx : Nat) (i : Nat) : Value :=
  if (cnt = 1 ∧ sl < 704) ∧ i = 6 + sl / 64 then .int .u64 (clr (gw f (sl / 64)) sl) else if i = 17 + sl then it (qq N idx) (cnt - 1) 0 else f i

/-- What 'unlink' leaves. -/
structure Loose (w wu : World) (w0 : World) (N cnt sl idx : Nat) (f : Nat → Value) : Prop where
  shard : ShardAt wu (N + 2) (fU f N cnt sl idx)
  tim : ∀ t, t < cnt → t ≠ idx → TimerAt wu (N + 4 + t) (pvG N idx t) (nxG N cnt idx t) sl
  gone : TimerAt wu (N + 4 + idx) (.pointer none) (.pointer none) (-1)
  other : ∀ g, g ≠ N + 2 → (∀ t, t < cnt → g ≠ N + 4 + t) → wu.heap[g]? = w.heap[g]?
  size : wu.heap.size = w.heap.size
  below : Below N w0 wu

theorem Loose.drew {w wu w0 : World} {N cnt sl idx : Nat} {f : Nat → Value} (h : Loose w wu w0 N cnt sl idx f) : Loose w wu.drew w0 N cnt sl idx f := ⟨h.shard, h.tim, h.gone, h.other, h.size, h.below.drew⟩

section
variable {w w0 : World} {N sl : Nat} {n : Int} {f : Nat → Value}

theorem loose_one (h : Ready w0 w N 1 sl n f) : ShardAt (cutW (w.setCell ⟨N + 2, 17 + sl, none⟩ (.pointer none)) (N + 4)) (N + 2) (fun i => if i = 17 + sl then .pointer none else f i) ∧ TimerAt (cutW (w.setCell ⟨N + 2, 17 + sl, none⟩ (.pointer none)) (N + 4)) (N + 4) (.pointer none) (.pointer none) (-1) ∧ (∀ g, g ≠ N + 2 → g ≠ N + 4 → (cutW (w.setCell ⟨N + 2, 17 + sl, none⟩ (.pointer none)) (N + 4)).heap[g]? = w.heap[g]?) ∧ (cutW (w.setCell ⟨N + 2, 17 + sl, none⟩ (.pointer none)) (N + 4)).heap.size = w.heap.size ∧ Below N w0 (cutW (w.setCell ⟨N + 2, 17 + sl, none⟩ (.pointer none)) (N + 4)) := by
  refine ⟨(h.shard.set (17 + sl) (.pointer none)).same (cut_heap _ _ _ (by omega)), cut_self ((h.tim 0 (by omega)).same (set_other _ _ _ _ (by simp))), fun g h1 h2 => (cut_heap _ _ _ h2).trans (set_other _ _ _ _ h1), ?_, cut_below (h.below.setCell (Nat.le_add_right _ _) _) (Nat.le_add_right _ _)⟩
  rw [cut_size]
  simp

theorem loose_low (h : Ready w0 w N 1 sl n f) (h7 : sl < 704) : Loose w (lowW w (N + 2) (N + 4) sl (gw f (sl / 64))) w0 N 1 sl 0 f := by
  obtain ⟨a1, a2, a3, a4, a5⟩ := loose_one h
  refine Loose.drew (Loose.drew ⟨(a1.set (6 + sl / 64) (.int .u64 (clr (gw f (sl / 64)) sl))).congr fun o ho => ?_, fun t ht hne => absurd hne (by omega), a2.same (set_other _ _ _ _ (by simp)), fun g h1 h2 => (set_other _ _ _ _ h1).trans (a3 g h1 (h2 0 (by omega))), ?_, a5.setCell (Nat.le_add_right _ _) _⟩)
  · simp only [fU, h7, it, true_and]
    rfl
  · simpa using a4

theorem loose_high (h : Ready w0 w N 1 sl n f) (h7 : ¬ sl < 704) : Loose w (highW w (N + 2) (N + 4) sl) w0 N 1 sl 0 f := by
  obtain ⟨a1, a2, a3, a4, a5⟩ := loose_one h
  refine Loose.drew ⟨a1.congr fun o ho => ?_, fun t ht hne => absurd hne (by omega), a2, fun g h1 h2 => a3 g h1 (h2 0 (by omega)), a4, a5⟩
  simp only [fU, h7, it, and_false, false_and, if_false]
  rfl

theorem loose_head {cnt : Nat} (h : Ready w0 w N cnt sl n f) (hc : 1 < cnt) : Loose w (headW w (N + 2) (N + 4) (N + 5) sl) w0 N cnt sl 0 f := by
  refine Loose.drew (Loose.drew ⟨?_, fun t ht hne => ?_, ?_, fun g h1 h2 => ?_, ?_, ?_⟩)
  · refine (((h.shard.set (17 + sl) (ptr (N + 5))).same (set_other _ _ _ _ (by simp))).same (cut_heap _ _ _ (by omega))).congr fun o ho => ?_
    have h1 : ¬ cnt = 1 := by omega
    have h2 : 0 < cnt - 1 := by omega
    simp only [fU, h1, it, h2, false_and, if_false, if_true]
    rfl
  · by_cases e : t = 1
    · subst e
      exact (((h.tim 1 ht).same (set_other w ⟨N + 2, 17 + sl, none⟩ (ptr (N + 5)) _ (by show N + 4 + 1 ≠ N + 2; omega))).setPrev (.pointer none)).same (cut_heap _ _ _ (by omega))
    · have := (((h.tim t ht).same (set_other w ⟨N + 2, 17 + sl, none⟩ (ptr (N + 5)) _ (by show N + 4 + t ≠ N + 2; omega))).same (set_other _ ⟨N + 5, 3, none⟩ (.pointer none) _ (by show N + 4 + t ≠ N + 5; omega))).same (cut_heap _ (N + 4) _ (by omega))
      have e1 : ¬ t + 1 = 0 := by omega
      have e2 : ¬ t = 0 + 1 := by omega
      simpa only [pvG, nxG, if_neg e1, if_neg e2] using this
  · exact cut_self (((h.tim 0 (by omega)).same (set_other w ⟨N + 2, 17 + sl, none⟩ (ptr (N + 5)) _ (by show N + 4 + 0 ≠ N + 2; omega))).same (set_other _ ⟨N + 5, 3, none⟩ (.pointer none) _ (by show N + 4 + 0 ≠ N + 5; omega)))
  · exact (cut_heap _ _ _ (h2 0 (by omega))).trans ((set_other _ _ _ _ (h2 1 (by omega))).trans (set_other _ _ _ _ h1))
  · rw [cut_size]
    simp
  · exact cut_below ((h.below.setCell (Nat.le_add_right _ _) _).setCell (Nat.le_add_right _ _) _) (Nat.le_add_right _ _)

theorem fU_more {cnt idx : Nat} (hf : f (17 + sl) = ptr (N + 4)) (hi : 0 < idx) (hc : idx < cnt) (o : Nat) : f o = fU f N cnt sl idx o := by
  have h1 : ¬ cnt = 1 := by omega
  have h2 : 0 < cnt - 1 := by omega
  simp only [fU, h1, it, h2, false_and, if_false, if_true, qq, hi]
  split
  · rename_i e
    rw [e, hf]
  · rfl

theorem loose_last {i : Nat} (h : Ready w0 w N (i + 2) sl n f) : Loose w (lastW w (N + 4 + (i + 1)) (N + 4 + i)) w0 N (i + 2) sl (i + 1) f := by
  refine Loose.drew ⟨?_, fun t ht hne => ?_, ?_, fun g h1 h2 => ?_, ?_, ?_⟩
  · exact ((h.shard.same (set_other _ _ _ _ (by show N + 2 ≠ N + 4 + i; omega))).same (cut_heap _ _ _ (by omega))).congr fun o _ => fU_more h.fst.head (by omega) (by omega) o
  · by_cases e : t = i
    · subst e
      have := ((h.tim t ht).setNext (.pointer none)).same (cut_heap _ (N + 4 + (t + 1)) _ (by omega))
      have e1 : ¬ t = t + 1 + 1 := by omega
      have e2 : nx (bq N) (t + 2) (t + 1) = .pointer none := by unfold nx; rw [if_neg (by omega)]
      simp only [pvG, nxG, if_neg e1, if_true, e2]
      exact this
    · have := ((h.tim t ht).same (set_other w ⟨N + 4 + i, 4, none⟩ (.pointer none) _ (by show N + 4 + t ≠ N + 4 + i; omega))).same (cut_heap _ (N + 4 + (i + 1)) _ (by omega))
      have e1 : ¬ t + 1 = i + 1 := by omega
      have e2 : ¬ t = i + 1 + 1 := by omega
      simp only [pvG, nxG, if_neg e1, if_neg e2]
      exact this
  · exact cut_self ((h.tim (i + 1) (by omega)).same (set_other w ⟨N + 4 + i, 4, none⟩ (.pointer none) _ (by show N + 4 + (i + 1) ≠ N + 4 + i; omega)))
  · exact (cut_heap _ _ _ (h2 (i + 1) (by omega))).trans (set_other _ _ _ _ (h2 i (by omega)))
  · rw [cut_size]
    simp
  · exact cut_below (h.below.setCell (by show N ≤ N + 4 + i; omega) _) (by omega)

theorem loose_mid {i cnt : Nat} (h : Ready w0 w N cnt sl n f) (hc : i + 2 < cnt) : Loose w (midW w (N + 4 + (i + 1)) (N + 4 + i) (N + 4 + (i + 2))) w0 N cnt sl (i + 1) f := by
  refine Loose.drew (Loose.drew ⟨?_, fun t ht hne => ?_, ?_, fun g h1 h2 => ?_, ?_, ?_⟩)
  · exact (((h.shard.same (set_other _ _ _ _ (by show N + 2 ≠ N + 4 + i; omega))).same (set_other _ _ _ _ (by show N + 2 ≠ N + 4 + (i + 2); omega))).same (cut_heap _ _ _ (by omega))).congr fun o _ => fU_more h.fst.head (by omega) (by omega) o
  · by_cases e : t = i
    · subst e
      have := (((h.tim t ht).setNext (ptr (N + 4 + (t + 2)))).same (set_other _ ⟨N + 4 + (t + 2), 3, none⟩ (ptr (N + 4 + t)) _ (by show N + 4 + t ≠ N + 4 + (t + 2); omega))).same (cut_heap _ (N + 4 + (t + 1)) _ (by omega))
      have e1 : ¬ t = t + 1 + 1 := by omega
      have e2 : nx (bq N) cnt (t + 1) = ptr (N + 4 + (t + 2)) := by unfold nx; rw [if_pos (by omega)]; rfl
      simp only [pvG, nxG, if_neg e1, if_true, e2]
      exact this
    · by_cases e' : t = i + 2
      · subst e'
        have := (((h.tim (i + 2) ht).same (set_other w ⟨N + 4 + i, 4, none⟩ (ptr (N + 4 + (i + 2))) _ (by show N + 4 + (i + 2) ≠ N + 4 + i; omega))).setPrev (ptr (N + 4 + i))).same (cut_heap _ (N + 4 + (i + 1)) _ (by omega))
        have e1 : ¬ i + 2 + 1 = i + 1 := by omega
        have e2 : pv (bq N) (i + 1) = ptr (N + 4 + i) := rfl
        simp only [pvG, nxG, if_neg e1, if_true, e2]
        exact this
      · have := (((h.tim t ht).same (set_other w ⟨N + 4 + i, 4, none⟩ (ptr (N + 4 + (i + 2))) _ (by show N + 4 + t ≠ N + 4 + i; omega))).same (set_other _ ⟨N + 4 + (i + 2), 3, none⟩ (ptr (N + 4 + i)) _ (by show N + 4 + t ≠ N + 4 + (i + 2); omega))).same (cut_heap _ (N + 4 + (i + 1)) _ (by omega))
        have e1 : ¬ t + 1 = i + 1 := by omega
        have e2 : ¬ t = i + 1 + 1 := by omega
        simp only [pvG, nxG, if_neg e1, if_neg e2]
        exact this
  · exact cut_self (((h.tim (i + 1) (by omega)).same (set_other w ⟨N + 4 + i, 4, none⟩ (ptr (N + 4 + (i + 2))) _ (by show N + 4 + (i + 1) ≠ N + 4 + i; omega))).same (set_other _ ⟨N + 4 + (i + 2), 3, none⟩ (ptr (N + 4 + i)) _ (by show N + 4 + (i + 1) ≠ N + 4 + (i + 2); omega)))
  · exact (cut_heap _ _ _ (h2 (i + 1) (by omega))).trans ((set_other _ _ _ _ (h2 (i + 2) (by omega))).trans (set_other _ _ _ _ (h2 i (by omega))))
  · rw [cut_size]
    simp
  · exact cut_below ((h.below.setCell (by show N ≤ N + 4 + i; omega) _).setCell (by show N ≤ N + 4 + (i + 2); omega) _) (by omega)
end

/-- What 'unplace' leaves. -/
structure Gone (w0 w : World) (N cnt sl idx : Nat) (n : Int) (f g : Nat → Value) : Prop where
  lst : LSt w (N + 2) sl (cnt - 1) (qq N idx) g
  cur : g 4 = .int .u64 0
  num : g 5 = .int .i64 (wrap64 (n - 1))
  occ : ∀ l, l < 11 → g (6 + l) = .int .u64 (if (cnt = 1 ∧ sl < 704) ∧ l = sl / 64 then clr (gw f l) sl else gw f l)
  gone : TimerAt w (N + 4 + idx) (.pointer none) (.pointer none) (-1)
  row : RowAt w (N + 3) cnt (rowK N cnt)
  dup : w.heap[N + 4 + cnt]? = some (.cells #[.int .u64 (gw f 0), .int .u64 (gw f 1), .int .u64 (gw f 2), .int .u64 (gw f 3), .int .u64 (gw f 4), .int .u64 (gw f 5), .int .u64 (gw f 6), .int .u64 (gw f 7), .int .u64 (gw f 8), .int .u64 (gw f 9), .int .u64 (gw f 10)] 26 (0, 0))
  size : N + 4 + cnt + 1 ≤ w.heap.size
  below : Below N w0 w

theorem Loose.num {w wu w0 : World} {N cnt sl idx : Nat} {n : Int} {f : Nat → Value} (h : Loose w wu w0 N cnt sl idx f) (r : Ready w0 w N cnt sl n f) (hsl : sl < 706) : wu.cell? ⟨N + 2, 5, none⟩ = some (.int .i64 n) ∧ wu.frozen? ⟨N + 2, 5, none⟩ = false := by
  refine ⟨?_, h.shard.mark 5⟩
  rw [h.shard.cell (by omega)]
  have e1 : ¬ 5 = 6 + sl / 64 := by omega
  have e2 : ¬ 5 = 17 + sl := by omega
  simp only [fU, e1, e2, and_false, if_false, r.fst.num]

theorem gone_of {w wu w0 : World} {N cnt sl idx : Nat} {n : Int} {f : Nat → Value} (h : Loose w wu w0 N cnt sl idx f) (r : Ready w0 w N cnt sl n f) (hsl : sl < 706) (hi : idx < cnt) :
    Gone w0 (wu.setCell ⟨N + 2, 5, none⟩ (.int .i64 (wrap64 (n - 1)))) N cnt sl idx n f (fun i => if i = 5 then .int .i64 (wrap64 (n - 1)) else fU f N cnt sl idx i) := by
  have k : ∀ g, g ≠ N + 2 → (wu.setCell ⟨N + 2, 5, none⟩ (.int .i64 (wrap64 (n - 1)))).heap[g]? = wu.heap[g]? := fun g hg => set_other _ _ _ _ hg
  have e5 : ∀ o, ¬ 17 + o = 5 := fun o => by omega
  refine ⟨⟨h.shard.set 5 _, ?_, fun o ho hne => ?_, fun j hj => ?_⟩, ?_, rfl, fun l hl => ?_, h.gone.same (k _ (by omega)), r.row.same ((k _ (by omega)).trans (h.other _ (by omega) (fun t _ => by omega))), ((k _ (by omega)).trans (h.other _ (by omega) (fun t _ => by omega))).trans r.dup, ?_, h.below.setCell (Nat.le_add_right _ _) _⟩
  · have e1 : ¬ 17 + sl = 6 + sl / 64 := by omega
    simp only [fU, e5, e1, and_false, if_false, if_true]
  · have e2 : ¬ 17 + o = 17 + sl := by omega
    simp only [fU, e5, e2, if_false]
    by_cases e3 : (cnt = 1 ∧ sl < 704) ∧ 17 + o = 6 + sl / 64
    · omega
    · rw [if_neg e3]
      exact r.fst.rest o ho hne
  · rw [qq_eq, ← pvG_eq, ← nxG_eq _ _ _ _ hj hi]
    refine (h.tim _ ?_ ?_).same (k _ (by omega))
    · split <;> omega
    · split <;> omega
  · have e1 : ¬ 4 = 6 + sl / 64 := by omega
    have e2 : ¬ 4 = 17 + sl := by omega
    simp only [fU, e1, e2, and_false, if_false, r.fst.cur]
    rfl
  · have e1 : ¬ 6 + l = 5 := by omega
    have e2 : ¬ 6 + l = 17 + sl := by omega
    have e3 : (6 + l = 6 + sl / 64) = (l = sl / 64) := by simp
    simp only [fU, e1, e2, if_false, e3]
    by_cases e : (cnt = 1 ∧ sl < 704) ∧ l = sl / 64
    · rw [if_pos e, if_pos e, e.2]
    · rw [if_neg e, if_neg e]
      exact r.fst.word hl
  · simp [h.size, r.size]

/-- Where no block of them turns they stay. -/
theorem Gone.kept {w0 w w' : World} {N cnt sl idx : Nat} {n : Int} {f g : Nat → Value} (h : Gone w0 w N cnt sl idx n f g) (hi : idx < cnt) (k : ∀ b, b < N + 4 + cnt + 1 → w'.heap[b]? = w.heap[b]?) (hs : w.heap.size ≤ w'.heap.size) (hb : Below N w0 w') : Gone w0 w' N cnt sl idx n f g := by
  refine ⟨⟨h.lst.shard.same (k _ (by omega)), h.lst.head, h.lst.rest, fun i hi' => (h.lst.tim i hi').same (k _ ?_)⟩, h.cur, h.num, h.occ, h.gone.same (k _ (by omega)), h.row.same (k _ (by omega)), (k _ (by omega)).trans h.dup, Nat.le_trans h.size hs, hb⟩
  unfold qq
  split <;> omega

/-- 'unplace' of the idx-th. -/
theorem unplace_any {w w0 : World} {N cnt sl idx : Nat} {n : Int} {f : Nat → Value} (r : Ready w0 w N cnt sl n f) (hsl : sl < 706) (hi : idx < cnt) :
    Calls Yba.prog 7 #[ptr (N + 2), ptr (N + 4 + idx)] w fun e w' => e = .returned (.bool true) ∧ Gone w0 w' N cnt sl idx n f (fun i => if i = 5 then .int .i64 (wrap64 (n - 1)) else fU f N cnt sl idx i) := by
  have go : ∀ wu, Loose w wu w0 N cnt sl idx f → (Calls Yba.prog 12 #[.pointer (some ⟨N + 2, 4, none⟩), ptr (N + 4 + idx)] w fun e w' => e = .returned (.tuple #[]) ∧ w' = wu) → Calls Yba.prog 7 #[ptr (N + 2), ptr (N + 4 + idx)] w fun e w' => e = .returned (.bool true) ∧ Gone w0 w' N cnt sl idx n f (fun i => if i = 5 then .int .i64 (wrap64 (n - 1)) else fU f N cnt sl idx i) := by
    intro wu hl hc
    obtain ⟨c5, m5⟩ := hl.num r hsl
    obtain ⟨_, _, t5, _⟩ := (r.tim idx hi).cells
    refine (unplace_of (N + 2) (N + 4 + idx) sl n w wu hc c5 m5 t5).mono ?_
    rintro e w' ⟨rfl, rfl⟩
    exact ⟨rfl, gone_of hl r hsl hi⟩
  rcases idx with _ | i
  · by_cases h1 : cnt = 1
    · subst h1
      by_cases h7 : sl < 704
      · exact go _ (loose_low r h7) (unlink_low (N + 2) (N + 4) sl _ f w r.shard (r.tim 0 hi) (by omega) h7 (r.fst.word (by omega)))
      · exact go _ (loose_high r h7) (unlink_high (N + 2) (N + 4) sl f w r.shard (r.tim 0 hi) (by omega) hsl h7)
    · have t0 := r.tim 0 hi
      have e0 : nx (bq N) cnt 0 = ptr (N + 5) := by unfold nx; rw [if_pos (by omega)]; rfl
      rw [e0] at t0
      exact go _ (loose_head r (by omega)) (unlink_head (N + 2) (N + 4) (N + 5) sl _ f w r.shard t0 (r.tim 1 (by omega)) (by omega) (by omega) (by omega) hsl)
  · have tp := r.tim i (by omega)
    have e0 : nx (bq N) cnt i = ptr (N + 4 + (i + 1)) := by unfold nx; rw [if_pos (by omega)]; rfl
    rw [e0] at tp
    have t := r.tim (i + 1) hi
    by_cases h2 : i + 2 < cnt
    · have e1 : nx (bq N) cnt (i + 1) = ptr (N + 4 + (i + 2)) := by unfold nx; rw [if_pos (by omega)]; rfl
      rw [e1] at t
      exact go _ (loose_mid r h2) (unlink_mid (N + 2) (N + 4 + (i + 1)) (N + 4 + i) (N + 4 + (i + 2)) (N + 4) sl _ _ f w r.shard t tp (r.tim (i + 2) h2) (by omega) (by omega) (by omega) (by omega) (by omega) (by omega) hsl r.fst.head)
    · obtain rfl : cnt = i + 2 := by omega
      have e1 : nx (bq N) (i + 2) (i + 1) = .pointer none := by unfold nx; rw [if_neg (by omega)]
      rw [e1] at t
      exact go _ (loose_last r) (unlink_last (N + 2) (N + 4 + (i + 1)) (N + 4 + i) (N + 4) sl _ f w r.shard t tp (by omega) (by omega) (by omega) hsl r.fst.head)
end Go.Proofs.Ybulkasiu
