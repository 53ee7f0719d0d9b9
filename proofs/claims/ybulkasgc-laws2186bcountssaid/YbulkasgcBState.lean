/-
  'LawS2186BCounts': the state of the Group that the law makes, as facts on the world. Our own work over the given program.
-/
import Derived.Test.YbulkasgcBTook
import Derived.Deep.DeepCutAuto
namespace Go.Proofs.Ybulkasgc
open Go.RowKit Go.WideMaps Go.Maps

/-- The cells of '&Group{cfg: .., states: .., missed: ..}'. -/
def gB (A M : ByteArray) (x y : Nat) : Array Value :=
  #[.int .i64 0, .int .i64 0, .int .i64 0, .int .i64 0, .string ⟨#[]⟩, .int .i64 0, .int .i64 0, .int .i64 0, .int .i64 0, .string ⟨#[]⟩, .string A, .string M, .string ⟨#[]⟩, .int .i64 0, .int .i64 0, .int .i64 0,
    .int .i64 0, .int .i64 0, .int .u64 0, .pointer none, .int .u64 0, .map (some x), .map none, .pointer none, .map none, .slice none 0 0, .slice none 0 0, .slice none 0 0, .map none, .map none, .slice none 0 0, .map none,
    .map none, .map none, .map none, .map none, .map none, .map none, .pointer none, .map none, .map none, .int .i64 0, .int .i64 0, .int .i64 0, .int .i64 0, .map (some y), .map none, .map none, .map none]

theorem build66B (A M : ByteArray) (x y : Nat) (w : World) :
    (Instr.build 66 #[(4, .agg #[.string ⟨#[]⟩, .string A, .string M, .string ⟨#[]⟩]), (9, .map (some x)), (30, .map (some y))]).run Yba.prog w = .ok (.agg (gB A M x y)) w := by kernel_rfl

/-- The Group in block N + 2, its two maps in blocks N and N + 1. -/
structure GSt (N : Nat) (w0 w : World) (A M : ByteArray) (f s p i : Int) (ns n : Nat) (Ds Dm : DataW Unit) : Prop where
  c10 : w.cell? ⟨N + 2, 10, none⟩ = some (.string A)
  c11 : w.cell? ⟨N + 2, 11, none⟩ = some (.string M)
  c21 : w.cell? ⟨N + 2, 21, none⟩ = some (.map (some N))
  c45 : w.cell? ⟨N + 2, 45, none⟩ = some (.map (some (N + 1)))
  c41 : w.cell? ⟨N + 2, 41, none⟩ = some (.int .i64 f)
  c42 : w.cell? ⟨N + 2, 42, none⟩ = some (.int .i64 s)
  c43 : w.cell? ⟨N + 2, 43, none⟩ = some (.int .i64 p)
  c44 : w.cell? ⟨N + 2, 44, none⟩ = some (.int .i64 i)
  marks : ∀ o, w.frozen? ⟨N + 2, o, none⟩ = false
  os : w.ownsMap Yba.prog 9 nsElem N ns Ds
  om : w.ownsMap Yba.prog 9 (plainElem Yba.prog 25) (N + 1) n Dm
  below : Below N w0 w
  size : N + 2 < w.heap.size

theorem gst_start (w : World) (A M : ByteArray) : GSt w.heap.size w (((w.alloc (.map #[] 0)).alloc (.map #[] 0)).alloc (.cells (gB A M w.heap.size (w.heap.size + 1)) 66)) A M 0 0 0 0 0 0 (.map []) (.map []) := by
  have hs : ((w.alloc (.map #[] 0)).alloc (.map #[] 0)).heap.size = w.heap.size + 2 := by simp
  have hcell : ∀ o, (((w.alloc (.map #[] 0)).alloc (.map #[] 0)).alloc (.cells (gB A M w.heap.size (w.heap.size + 1)) 66)).cell? ⟨w.heap.size + 2, o, none⟩ = (gB A M w.heap.size (w.heap.size + 1))[o]? := by
    intro o
    exact World.cell?_alloc_at _ _ _ _ (by simp)
  refine ⟨(hcell _).trans rfl, (hcell _).trans rfl, (hcell _).trans rfl, (hcell _).trans rfl, (hcell _).trans rfl, (hcell _).trans rfl, (hcell _).trans rfl, (hcell _).trans rfl, ?_, ?_, ?_, ?_, by simp⟩
  · intro o
    exact World.frozen?_alloc_at _ _ _ _ (by simp)
  · exact ((World.ownsMap_made _ _ _ _).alloc _).alloc _
  · have := (World.ownsMap_made (H := Unit) (w.alloc (.map #[] 0)) Yba.prog 9 (plainElem Yba.prog 25)).alloc (.cells (gB A M w.heap.size (w.heap.size + 1)) 66)
    simpa using this
  · exact (((Below.refl _ _).alloc (Nat.le_refl _) _).alloc (by simp) _).alloc (by simp <;> omega) _

/-- A store into 'states'. -/
theorem GSt.put_states {N : Nat} {w0 w w1 : World} {A M : ByteArray} {f s p i : Int} {ns n : Nat} {Ds Dm D : DataW Unit} (h : GSt N w0 w A M f s p i ns n Ds Dm) (hown : w1.ownsMap Yba.prog 9 nsElem N (ns + 1) D) (hg : w.grownBy w1 (some N)) : GSt N w0 w1 A M f s p i (ns + 1) n D Dm := by
  obtain ⟨g1, g2⟩ := gcell hg h.size (by simp)
  exact ⟨(g1 _).trans h.c10, (g1 _).trans h.c11, (g1 _).trans h.c21, (g1 _).trans h.c45, (g1 _).trans h.c41, (g1 _).trans h.c42, (g1 _).trans h.c43, (g1 _).trans h.c44, fun o => (g2 o).trans (h.marks o), hown, h.om.kept hg (by simp),
    h.below.grown hg (by have := h.size; omega) (fun k hk => by cases hk; exact Nat.le_refl _), Nat.lt_of_lt_of_le h.size hg.size⟩

/-- A store into 'missed'. -/
theorem GSt.put_missed {N : Nat} {w0 w w1 : World} {A M : ByteArray} {f s p i : Int} {ns n : Nat} {Ds Dm D : DataW Unit} (h : GSt N w0 w A M f s p i ns n Ds Dm) (hown : w1.ownsMap Yba.prog 9 (plainElem Yba.prog 25) (N + 1) (n + 1) D) (hg : w.grownBy w1 (some (N + 1))) : GSt N w0 w1 A M f s p i ns (n + 1) Ds D := by
  obtain ⟨g1, g2⟩ := gcell hg h.size (by simp)
  exact ⟨(g1 _).trans h.c10, (g1 _).trans h.c11, (g1 _).trans h.c21, (g1 _).trans h.c45, (g1 _).trans h.c41, (g1 _).trans h.c42, (g1 _).trans h.c43, (g1 _).trans h.c44, fun o => (g2 o).trans (h.marks o), h.os.kept hg (by simp), hown,
    h.below.grown hg (by have := h.size; omega) (fun k hk => by cases hk; omega), Nat.lt_of_lt_of_le h.size hg.size⟩

theorem GSt.mono {N : Nat} {w0 w : World} {A M : ByteArray} {f s p i : Int} {ns n n' : Nat} {Ds Dm : DataW Unit} (h : GSt N w0 w A M f s p i ns n Ds Dm) (hn : n ≤ n') : GSt N w0 w A M f s p i ns n' Ds Dm :=
  ⟨h.c10, h.c11, h.c21, h.c45, h.c41, h.c42, h.c43, h.c44, h.marks, h.os, h.om.mono hn, h.below, h.size⟩

/-- 'g.hazards = Hazards{..}'. -/
theorem GSt.set4 {N : Nat} {w0 w : World} {A M : ByteArray} {f s p i : Int} {ns n : Nat} {Ds Dm : DataW Unit} (h : GSt N w0 w A M f s p i ns n Ds Dm) (f' s' p' i' : Int) :
    GSt N w0 ((((w.setCell ⟨N + 2, 41, none⟩ (.int .i64 f')).setCell ⟨N + 2, 42, none⟩ (.int .i64 s')).setCell ⟨N + 2, 43, none⟩ (.int .i64 p')).setCell ⟨N + 2, 44, none⟩ (.int .i64 i')) A M f' s' p' i' ns n Ds Dm := by
  have oth : ∀ (w : World) (o o' : Nat) (v : Value), o ≠ o' → (w.setCell ⟨N + 2, o, none⟩ v).cell? ⟨N + 2, o', none⟩ = w.cell? ⟨N + 2, o', none⟩ := fun w o o' v hne => World.cell?_setCell_other _ _ _ _ (fun e => hne (congrArg Addr.off e))
  have all : ∀ o, o ≠ 41 → o ≠ 42 → o ≠ 43 → o ≠ 44 → ((((w.setCell ⟨N + 2, 41, none⟩ (.int .i64 f')).setCell ⟨N + 2, 42, none⟩ (.int .i64 s')).setCell ⟨N + 2, 43, none⟩ (.int .i64 p')).setCell ⟨N + 2, 44, none⟩ (.int .i64 i')).cell? ⟨N + 2, o, none⟩ = w.cell? ⟨N + 2, o, none⟩ := by
    intro o h1 h2 h3 h4
    rw [oth _ _ _ _ h4.symm, oth _ _ _ _ h3.symm, oth _ _ _ _ h2.symm, oth _ _ _ _ h1.symm]
  refine ⟨(all _ (by omega) (by omega) (by omega) (by omega)).trans h.c10, (all _ (by omega) (by omega) (by omega) (by omega)).trans h.c11, (all _ (by omega) (by omega) (by omega) (by omega)).trans h.c21, (all _ (by omega) (by omega) (by omega) (by omega)).trans h.c45, ?_, ?_, ?_, ?_, ?_, ?_, ?_, ?_, ?_⟩
  · rw [oth _ _ _ _ (by omega), oth _ _ _ _ (by omega), oth _ _ _ _ (by omega)]
    exact World.cell?_setCell_same _ _ _ h.c41
  · rw [oth _ _ _ _ (by omega), oth _ _ _ _ (by omega)]
    exact World.cell?_setCell_same (u := .int .i64 s) _ _ _ (by rw [oth _ _ _ _ (by omega)]; exact h.c42)
  · rw [oth _ _ _ _ (by omega)]
    exact World.cell?_setCell_same (u := .int .i64 p) _ _ _ (by rw [oth _ _ _ _ (by omega), oth _ _ _ _ (by omega)]; exact h.c43)
  · exact World.cell?_setCell_same (u := .int .i64 i) _ _ _ (by rw [oth _ _ _ _ (by omega), oth _ _ _ _ (by omega), oth _ _ _ _ (by omega)]; exact h.c44)
  · intro o
    simp only [World.frozen?_setCell]
    exact h.marks o
  · exact (((h.os.setCell (by simp) _).setCell (by simp) _).setCell (by simp) _).setCell (by simp) _
  · exact (((h.om.setCell (by simp) _).setCell (by simp) _).setCell (by simp) _).setCell (by simp) _
  · exact (((h.below.setCell (by simp) _).setCell (by simp) _).setCell (by simp) _).setCell (by simp) _
  · simpa [World.setCell] using h.size

theorem neq_bool (a b : ByteArray) : (!(a.toList == b.toList)) = !decide (a = b) := by
  by_cases h : a = b
  · subst h; simp
  · rw [toList_ne h]; simp [h]

theorem eq_of_toList {a b : ByteArray} (h : (a.toList == b.toList) = true) : a = b := by
  apply Classical.byContradiction
  intro hn
  rw [toList_ne hn] at h
  cases h

theorem ne_of_toList {a b : ByteArray} (h : (a.toList == b.toList) = false) : ¬ a = b := by
  rintro rfl
  simp at h

/-- What is read of the Group behind 'tookOver'. -/
structure GFin (N : Nat) (w0 w : World) (f s p i : Int) (n : Nat) (D : DataW Unit) : Prop where
  c41 : w.cell? ⟨N + 2, 41, none⟩ = some (.int .i64 f)
  c42 : w.cell? ⟨N + 2, 42, none⟩ = some (.int .i64 s)
  c43 : w.cell? ⟨N + 2, 43, none⟩ = some (.int .i64 p)
  c44 : w.cell? ⟨N + 2, 44, none⟩ = some (.int .i64 i)
  c45 : w.cell? ⟨N + 2, 45, none⟩ = some (.map (some (N + 1)))
  om : w.ownsMap Yba.prog 9 (plainElem Yba.prog 25) (N + 1) n D
  below : Below N w0 w
  size : N + 2 < w.heap.size

theorem GSt.took {N : Nat} {w0 w w1 : World} {A M : ByteArray} {f s p i f' s' : Int} {ns n : Nat} {Ds Dm D : DataW Unit} (h : GSt N w0 w A M f s p i ns n Ds Dm) (ht : Took N (N + 2) (N + 1) n w w1 f' s' D) : GFin N w0 w1 f' s' p i n D :=
  ⟨ht.c41, ht.c42, (ht.cells _ (by omega) (by omega)).trans h.c43, (ht.cells _ (by omega) (by omega)).trans h.c44, (ht.cells _ (by omega) (by omega)).trans h.c45, ht.owns, h.below.trans ht.below, Nat.lt_of_lt_of_le h.size ht.below.size⟩

/-- The map 'missed' as the law lays it. -/
def missD (inM ob : Bool) (node other : ByteArray) : DataW Unit :=
  let D0 : DataW Unit := if inM then (DataW.map []).put (kl node) (.lit (.int .i64 7)) else .map []
  if ob then D0.put (kl other) (.lit (.int .i64 9)) else D0

/-- The map 'states' as the law lays it. -/
def stateD (A M : ByteArray) (x y : Int) : DataW Unit := ((DataW.map []).put (kl A) (.lit (.int .u64 x))).put (kl M) (.lit (.int .u64 y))

theorem kl_ne {a b : ByteArray} (h : a ≠ b) : kl a ≠ kl b := by
  intro e
  apply h
  injection e with e1
  cases a; cases b
  simp_all [Array.toList_inj]

theorem key_kl (a : ByteArray) : WideAt.IsKeyLit (kl a) := trivial

theorem state_at (A M node p : ByteArray) (x y : Int) (hp : p = if node = A then M else A) : (stateD A M x y).atKey (kl p) (.lit (.int .u64 0)) = .lit (.int .u64 (if p = M then y else x)) := by
  unfold stateD
  by_cases h : p = M
  · rw [if_pos h, h, atKey_put_same ((isMap_empty.put _ _)) (key_kl _)]
  · have hA : p = A := by
      rw [hp] at h ⊢
      split <;> simp_all
    rw [if_neg h, atKey_put_other (kl_ne h), hA, atKey_put_same isMap_empty (key_kl _)]

theorem miss_has (inM ob : Bool) (node other : ByteArray) (hob : ob = true → other ≠ node) : has (missD inM ob node other) (kl node) = inM := by
  cases inM <;> cases ob
  · rfl
  · exact (has_put_other (D := (.map [] : DataW Unit)) (kl_ne (hob rfl).symm) _).trans rfl
  · exact has_put_same isMap_empty (key_kl _) _
  · exact (has_put_other (kl_ne (hob rfl).symm) _).trans (has_put_same isMap_empty (key_kl _) _)

/-- 'missed' behind 'tookOver'. -/
def leftD (le inM ob : Bool) (node other : ByteArray) : DataW Unit := if le then (missD inM ob node other).del (kl node) else missD inM ob node other

theorem left_has (le inM ob : Bool) (node other : ByteArray) (hob : ob = true → other ≠ node) : has (leftD le inM ob node other) (kl node) = (!le && inM) := by
  cases le
  · exact miss_has inM ob node other hob
  · exact has_del_same

theorem left_other (le inM : Bool) (node other : ByteArray) (hne : other ≠ node) : has (leftD le inM true node other) (kl other) = true ∧ (leftD le inM true node other).atKey (kl other) (.lit (.int .i64 0)) = .lit (.int .i64 9) := by
  have h0 : IsMap (if inM then (DataW.map []).put (kl node) (.lit (.int .i64 7)) else (.map [] : DataW Unit)) := by
    cases inM
    · exact isMap_empty
    · exact isMap_empty.put _ _
  cases le
  · exact ⟨has_put_same h0 (key_kl _) _, atKey_put_same h0 (key_kl _) _ _⟩
  · exact ⟨(has_del_other (kl_ne hne)).trans (has_put_same h0 (key_kl _) _), (atKey_del_other (kl_ne hne) _).trans (atKey_put_same h0 (key_kl _) _ _)⟩

theorem miss_tidy (inM ob : Bool) (node other : ByteArray) : Tidy (missD inM ob node other) := by
  unfold missD
  cases inM <;> cases ob
  · exact tidy_empty
  · exact tidy_empty.put (key_kl _) _
  · exact tidy_empty.put (key_kl _) _
  · exact (tidy_empty.put (key_kl _) _).put (key_kl _) _

theorem miss_size (inM ob : Bool) (node other : ByteArray) (hob : ob = true → other ≠ node) : size (missD inM ob node other) = inM.toNat + ob.toNat := by
  have h1 : size ((DataW.map [] : DataW Unit).put (kl node) (.lit (.int .i64 7))) = 1 := rfl
  cases inM <;> cases ob
  · rfl
  · rfl
  · rfl
  · show size (((DataW.map [] : DataW Unit).put (kl node) (.lit (.int .i64 7))).put (kl other) (.lit (.int .i64 9))) = 2
    rw [size_put (tidy_empty.put (key_kl _) _), has_put_other (kl_ne (hob rfl)), h1]
    rfl

theorem left_size (le inM ob : Bool) (node other : ByteArray) (hob : ob = true → other ≠ node) : size (leftD le inM ob node other) = (!le && inM).toNat + ob.toNat := by
  cases le
  · exact miss_size inM ob node other hob
  · have h := size_del (k := kl node) (miss_tidy inM ob node other)
    rw [miss_has inM ob node other hob, miss_size inM ob node other hob] at h
    show size ((missD inM ob node other).del (kl node)) = _
    cases inM <;> simp at h ⊢ <;> omega

end Go.Proofs.Ybulkasgc
