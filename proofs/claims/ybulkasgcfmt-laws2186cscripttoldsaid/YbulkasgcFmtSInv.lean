/-
  'LawS2186CScript': what the script keeps. Our own work over the given program.
-/
import Derived.Test.YbulkasgcFmtCWalk
import Derived.Maps.OwnOps
import Derived.Maps.OwnSet
import Derived.BigQuiet
namespace Go.Proofs.YbulkasgcFmt
open Go.RowKit Go.WideMaps Go.Maps

abbrev kl (s : ByteArray) : Lit := .string s.data.toList
theorem law9 : Keyed Ybaf.prog 9 := string_keyed Ybaf.underlying9
theorem key9 {s : ByteArray} (h : s.size ≤ maxLen) : keyOf Ybaf.prog 9 (.string s) = some (kl s) := keyOf_string_mk Ybaf.underlying9 h
theorem zero28 (w : World) : (zeroValue 28).run Ybaf.prog w = .ok (.int .i64 0) w := by kernel_rfl
theorem zero4 (w : World) : (zeroValue 4).run Ybaf.prog w = .ok (.bool false) w := by kernel_rfl

/-- Every time that the map holds lies between 0 and now. -/
def Within (D : DataW Unit) (now : Int) : Prop := ∀ s : ByteArray, ∃ t : Int, D.atKey (kl s) (.lit (.int .i64 0)) = .lit (.int .i64 t) ∧ 0 ≤ t ∧ t ≤ now

theorem Within.mono {D : DataW Unit} {a b : Int} (h : Within D a) (hab : a ≤ b) : Within D b := fun s => by
  obtain ⟨t, h1, h2, h3⟩ := h s
  exact ⟨t, h1, h2, by omega⟩

theorem Within.put {D : DataW Unit} {now t : Int} {s : ByteArray} (h : Within D now) (hm : IsMap D) (h0 : 0 ≤ t) (h1 : t ≤ now) : Within (D.put (kl s) (.lit (.int .i64 t))) now := fun s' => by
  by_cases e : kl s' = kl s
  · rw [e, atKey_put_same hm (show WideAt.IsKeyLit (kl s) from trivial)]
    exact ⟨t, rfl, h0, h1⟩
  · rw [atKey_put_other e]
    exact h s'

abbrev MB (w : World) (b m : Nat) (D : DataW Unit) : Prop := w.ownsMap Ybaf.prog 9 (plainElem Ybaf.prog 4) b m D
abbrev MD (w : World) (b m : Nat) (D : DataW Unit) : Prop := w.ownsMap Ybaf.prog 9 (plainElem Ybaf.prog 28) b m D

/-- The receiver's block and the starts. -/
structure SBase (N : Nat) (w0 w : World) (k : Nat) (v : Value) (rs : Nat → SRec) : Prop where
  hS : w.heap[N + 5]? = some (.cells #[.map (some N), .map (some (N + 1)), .map (some (N + 2)), .map (some (N + 3)), .map (some (N + 4)), v] 36 (0, 0))
  row : w.ownsRow N 31 6 v k (flat rs k)
  recs : ∀ j, j < k → (rs j).late 0 = false ∧ (rs j).Num ∧ RecOwn w (rs j)
  bel : Below N w0 w

/-- THE STATE: five maps in the blocks N .. N + 4, the 'Serving' in N + 5. -/
structure SInv (N : Nat) (w0 w : World) (m : Nat) (now : Int) (k : Nat) (v : Value) (rs : Nat → SRec) : Prop where
  base : SBase N w0 w k v rs
  m0 : ∃ D, MB w N m D
  m1 : ∃ D, MB w (N + 1) m D
  m2 : ∃ D, MD w (N + 2) 0 D
  m3 : ∃ D, MD w (N + 3) m D ∧ Within D now
  m4 : ∃ D, MD w (N + 4) m D

theorem SBase.grown {N : Nat} {w0 w w1 : World} {k : Nat} {v : Value} {rs : Nat → SRec} (h : SBase N w0 w k v rs) {row : Option Nat} (hg : w.grownBy w1 row) (hr : ∀ b, row = some b → N ≤ b ∧ b ≠ N + 5 ∧ ∃ es c, w.heap[b]? = some (.map es c)) : SBase N w0 w1 k v rs := by
  have hSl := lt_of_block h.hS
  have kp : Keep9 w w1 := keep9_grown hg (fun b hb cur hc => by
    obtain ⟨_, _, es, c, hm⟩ := hr b hb
    rw [hc] at hm
    cases hm)
  refine ⟨(hg.block (N + 5) hSl (fun e => (hr _ e.symm).2.1 rfl)).trans h.hS, h.row.kept hg ?_, fun j hj => ?_, h.bel.grown hg (by omega) (fun b hb => (hr b hb).1)⟩
  · obtain ⟨_, ⟨hv, _⟩ | ⟨g, cp, cur, hv, hBg, hh, _⟩⟩ := h.row
    · exact .inl (by rw [hv]; rfl)
    · refine .inr fun e => ?_
      rw [hv] at e
      obtain ⟨_, _, es, c, hm⟩ := hr g (by rw [← e]; rfl)
      rw [hh] at hm
      cases hm
  · obtain ⟨h1, h2, h3⟩ := h.recs j hj
    exact ⟨h1, h2, h3.kept kp⟩

theorem SInv.kept {N : Nat} {w0 w w1 : World} {m k : Nat} {now : Int} {v : Value} {rs : Nat → SRec} (h : SInv N w0 w m now k v rs) (hb : Below w.heap.size w w1) : SInv N w0 w1 m now k v rs := by
  have hg := grown_of_below hb
  obtain ⟨D0, h0⟩ := h.m0
  obtain ⟨D1, h1⟩ := h.m1
  obtain ⟨D2, h2⟩ := h.m2
  obtain ⟨D3, h3, h3'⟩ := h.m3
  obtain ⟨D4, h4⟩ := h.m4
  exact ⟨h.base.grown hg (fun b hb => by cases hb), ⟨D0, h0.kept hg (by simp)⟩, ⟨D1, h1.kept hg (by simp)⟩, ⟨D2, h2.kept hg (by simp)⟩, ⟨D3, h3.kept hg (by simp), h3'⟩, ⟨D4, h4.kept hg (by simp)⟩⟩

theorem SInv.later {N : Nat} {w0 w : World} {m m' k : Nat} {now now' : Int} {v : Value} {rs : Nat → SRec} (h : SInv N w0 w m now k v rs) (hm : m ≤ m') (hn : now ≤ now') : SInv N w0 w m' now' k v rs := by
  obtain ⟨D0, h0⟩ := h.m0
  obtain ⟨D1, h1⟩ := h.m1
  obtain ⟨D3, h3, h3'⟩ := h.m3
  obtain ⟨D4, h4⟩ := h.m4
  exact ⟨h.base, ⟨D0, h0.mono hm⟩, ⟨D1, h1.mono hm⟩, h.m2, ⟨D3, h3.mono hm, h3'.mono hn⟩, ⟨D4, h4.mono hm⟩⟩

theorem map_block {w : World} {R : Value → Option (DataW Unit × List MemPlace)} {b n : Nat} {D : DataW Unit} (h : w.ownsMap Ybaf.prog 9 R b n D) : ∃ es c, w.heap[b]? = some (.map es c) := by
  obtain ⟨es, c, hb, _⟩ := h
  exact ⟨es, c, hb⟩

theorem SInv.turn0 {N : Nat} {w0 w w1 : World} {m k : Nat} {now : Int} {v : Value} {rs : Nat → SRec} (h : SInv N w0 w m now k v rs) (ho : ∃ D, MB w1 N m D) (hg : w.grownBy w1 (some N)) : SInv N w0 w1 m now k v rs := by
  obtain ⟨D0, h0⟩ := h.m0
  obtain ⟨D1, h1⟩ := h.m1
  obtain ⟨D2, h2⟩ := h.m2
  obtain ⟨D3, h3, h3'⟩ := h.m3
  obtain ⟨D4, h4⟩ := h.m4
  exact ⟨h.base.grown hg (fun b hb => by cases hb; exact ⟨by omega, by omega, map_block h0⟩), ho, ⟨D1, h1.kept hg (by simp)⟩, ⟨D2, h2.kept hg (by simp)⟩, ⟨D3, h3.kept hg (by simp), h3'⟩, ⟨D4, h4.kept hg (by simp)⟩⟩

theorem SInv.turn1 {N : Nat} {w0 w w1 : World} {m k : Nat} {now : Int} {v : Value} {rs : Nat → SRec} (h : SInv N w0 w m now k v rs) (ho : ∃ D, MB w1 (N + 1) m D) (hg : w.grownBy w1 (some (N + 1))) : SInv N w0 w1 m now k v rs := by
  obtain ⟨D0, h0⟩ := h.m0
  obtain ⟨D1, h1⟩ := h.m1
  obtain ⟨D2, h2⟩ := h.m2
  obtain ⟨D3, h3, h3'⟩ := h.m3
  obtain ⟨D4, h4⟩ := h.m4
  exact ⟨h.base.grown hg (fun b hb => by cases hb; exact ⟨by omega, by omega, map_block h1⟩), ⟨D0, h0.kept hg (by simp)⟩, ho, ⟨D2, h2.kept hg (by simp)⟩, ⟨D3, h3.kept hg (by simp), h3'⟩, ⟨D4, h4.kept hg (by simp)⟩⟩

theorem SInv.turn2 {N : Nat} {w0 w w1 : World} {m k : Nat} {now : Int} {v : Value} {rs : Nat → SRec} (h : SInv N w0 w m now k v rs) (ho : ∃ D, MD w1 (N + 2) 0 D) (hg : w.grownBy w1 (some (N + 2))) : SInv N w0 w1 m now k v rs := by
  obtain ⟨D0, h0⟩ := h.m0
  obtain ⟨D1, h1⟩ := h.m1
  obtain ⟨D2, h2⟩ := h.m2
  obtain ⟨D3, h3, h3'⟩ := h.m3
  obtain ⟨D4, h4⟩ := h.m4
  exact ⟨h.base.grown hg (fun b hb => by cases hb; exact ⟨by omega, by omega, map_block h2⟩), ⟨D0, h0.kept hg (by simp)⟩, ⟨D1, h1.kept hg (by simp)⟩, ho, ⟨D3, h3.kept hg (by simp), h3'⟩, ⟨D4, h4.kept hg (by simp)⟩⟩

theorem SInv.turn3 {N : Nat} {w0 w w1 : World} {m k : Nat} {now : Int} {v : Value} {rs : Nat → SRec} (h : SInv N w0 w m now k v rs) (ho : ∃ D, MD w1 (N + 3) m D ∧ Within D now) (hg : w.grownBy w1 (some (N + 3))) : SInv N w0 w1 m now k v rs := by
  obtain ⟨D0, h0⟩ := h.m0
  obtain ⟨D1, h1⟩ := h.m1
  obtain ⟨D2, h2⟩ := h.m2
  obtain ⟨D3, h3, h3'⟩ := h.m3
  obtain ⟨D4, h4⟩ := h.m4
  exact ⟨h.base.grown hg (fun b hb => by cases hb; exact ⟨by omega, by omega, map_block h3⟩), ⟨D0, h0.kept hg (by simp)⟩, ⟨D1, h1.kept hg (by simp)⟩, ⟨D2, h2.kept hg (by simp)⟩, ho, ⟨D4, h4.kept hg (by simp)⟩⟩

theorem SInv.turn4 {N : Nat} {w0 w w1 : World} {m k : Nat} {now : Int} {v : Value} {rs : Nat → SRec} (h : SInv N w0 w m now k v rs) (ho : ∃ D, MD w1 (N + 4) m D) (hg : w.grownBy w1 (some (N + 4))) : SInv N w0 w1 m now k v rs := by
  obtain ⟨D0, h0⟩ := h.m0
  obtain ⟨D1, h1⟩ := h.m1
  obtain ⟨D2, h2⟩ := h.m2
  obtain ⟨D3, h3, h3'⟩ := h.m3
  obtain ⟨D4, h4⟩ := h.m4
  exact ⟨h.base.grown hg (fun b hb => by cases hb; exact ⟨by omega, by omega, map_block h4⟩), ⟨D0, h0.kept hg (by simp)⟩, ⟨D1, h1.kept hg (by simp)⟩, ⟨D2, h2.kept hg (by simp)⟩, ⟨D3, h3.kept hg (by simp), h3'⟩, ho⟩

theorem sinv_start (w : World) (rs : Nat → SRec) :
    SInv w.heap.size w ((((((w.alloc (.map #[] 0)).alloc (.map #[] 0)).alloc (.map #[] 0)).alloc (.map #[] 0)).alloc (.map #[] 0)).alloc (.cells #[.map (some w.heap.size), .map (some (w.heap.size + 1)), .map (some (w.heap.size + 2)), .map (some (w.heap.size + 3)), .map (some (w.heap.size + 4)), .slice none 0 0] 36)) 0 0 0 (.slice none 0 0) rs := by
  have hS := (cinv_start w rs 0).2.1
  have hB := (cinv_start w rs 0).2.2.1
  refine ⟨⟨?_, World.ownsRow_nil _ _ _ _, fun j hj => absurd hj (by omega), hB⟩, ?_, ?_, ?_, ?_, ?_⟩
  · have := (MapKept.heap_alloc (((((w.alloc (.map #[] 0)).alloc (.map #[] 0)).alloc (.map #[] 0)).alloc (.map #[] 0)).alloc (.map #[] 0)) (.cells #[.map (some w.heap.size), .map (some (w.heap.size + 1)), .map (some (w.heap.size + 2)), .map (some (w.heap.size + 3)), .map (some (w.heap.size + 4)), .slice none 0 0] 36)).1
    simpa using this
  · exact ⟨_, (((((World.ownsMap_made _ _ _ _).alloc _).alloc _).alloc _).alloc _).alloc _⟩
  · have := ((((World.ownsMap_made (H := Unit) (w.alloc (.map #[] 0)) Ybaf.prog 9 (plainElem Ybaf.prog 4)).alloc (.map #[] 0)).alloc (.map #[] 0)).alloc (.map #[] 0)).alloc (.cells #[.map (some w.heap.size), .map (some (w.heap.size + 1)), .map (some (w.heap.size + 2)), .map (some (w.heap.size + 3)), .map (some (w.heap.size + 4)), .slice none 0 0] 36)
    exact ⟨_, by simpa using this⟩
  · have := (((World.ownsMap_made (H := Unit) ((w.alloc (.map #[] 0)).alloc (.map #[] 0)) Ybaf.prog 9 (plainElem Ybaf.prog 28)).alloc (.map #[] 0)).alloc (.map #[] 0)).alloc (.cells #[.map (some w.heap.size), .map (some (w.heap.size + 1)), .map (some (w.heap.size + 2)), .map (some (w.heap.size + 3)), .map (some (w.heap.size + 4)), .slice none 0 0] 36)
    exact ⟨_, by simpa using this⟩
  · have := ((World.ownsMap_made (H := Unit) (((w.alloc (.map #[] 0)).alloc (.map #[] 0)).alloc (.map #[] 0)) Ybaf.prog 9 (plainElem Ybaf.prog 28)).alloc (.map #[] 0)).alloc (.cells #[.map (some w.heap.size), .map (some (w.heap.size + 1)), .map (some (w.heap.size + 2)), .map (some (w.heap.size + 3)), .map (some (w.heap.size + 4)), .slice none 0 0] 36)
    exact ⟨_, by simpa using this, fun s => ⟨0, rfl, by omega, by omega⟩⟩
  · have := (World.ownsMap_made (H := Unit) ((((w.alloc (.map #[] 0)).alloc (.map #[] 0)).alloc (.map #[] 0)).alloc (.map #[] 0)) Ybaf.prog 9 (plainElem Ybaf.prog 28)).alloc (.cells #[.map (some w.heap.size), .map (some (w.heap.size + 1)), .map (some (w.heap.size + 2)), .map (some (w.heap.size + 3)), .map (some (w.heap.size + 4)), .slice none 0 0] 36)
    exact ⟨_, by simpa using this⟩
end Go.Proofs.YbulkasgcFmt
