/-
  'LawS2186CScript': 'slices.Sorted(maps.Keys(m))' at its two maps. Our own work over the given program.
-/
import Derived.Test.YbulkasgcFmtOver
import Derived.Test.YbulkasgcFmtIter
namespace Go.Proofs.YbulkasgcFmt
open Go.RowKit Go.WideMaps Go.Maps Go.Sort Go.Shelf

/-- A slice of strings of the call's own. -/
def StrSlice (w : World) (oa : Option Addr) (on oc : Nat) : Prop := ∃ (B : Nat) (l : List ByteArray), w.ownsRow B 9 1 (.slice oa on oc) on (l.map Value.string) ∧ l.length = on ∧ (∀ s ∈ l, s.size ≤ maxLen) ∧ on ≤ 4097

theorem keys24 (b : Nat) (w : World) : Calls Ybaf.prog 24 #[.map (some b)] w fun e w' => e = .returned (.func (.func 30) #[] #[.pointer (some ⟨w.heap.size, 0, none⟩)]) ∧ w' = w.alloc (.cells #[.map (some b)] 33) := callsIn_wide.1 (Ybaf.maps_Keys_24 (some b) w)
theorem keys23 (b : Nat) (w : World) : Calls Ybaf.prog 23 #[.map (some b)] w fun e w' => e = .returned (.func (.func 29) #[] #[.pointer (some ⟨w.heap.size, 0, none⟩)]) ∧ w' = w.alloc (.cells #[.map (some b)] 34) := callsIn_wide.1 (Ybaf.maps_Keys_23 (some b) w)

theorem own_form {w : World} {B n : Nat} {v : Value} {xs : List Value} (h : w.ownsRow B 9 1 v n xs) : ∃ oa oc, v = .slice oa n oc := by
  obtain ⟨_, ⟨hv, hn⟩ | ⟨g, cp, cur, hv, _⟩⟩ := h
  · exact ⟨none, 0, by rw [hv, hn]⟩
  · exact ⟨_, cp, hv⟩

theorem strs_of {D : DataW Unit} {w w' : World} {R : Value → Option (DataW Unit × List MemPlace)} {b m B : Nat} {v : Value} {ss : List (List UInt8)} (h : w.ownsMap Ybaf.prog 9 R b m D) (hm : m ≤ 4097) (hS : ss.Perm (strKeys D)) (hrow : w'.ownsRow B 9 1 v ss.length ((ss.mergeSort (fun x y => decide (x ≤ y))).map encStr)) :
    ∃ oa on oc, v = .slice oa on oc ∧ StrSlice w' oa on oc := by
  obtain ⟨oa, oc, rfl⟩ := own_form hrow
  have hlen : ss.length ≤ m := by
    have h1 := hS.length_eq
    have h2 := h.size_le
    have h3 : (strKeys D).length = Maps.size D := by cases D <;> simp [strKeys, Maps.size]
    omega
  refine ⟨oa, ss.length, oc, rfl, B, (ss.mergeSort (fun x y => decide (x ≤ y))).map (fun s => ⟨s.toArray⟩), ?_, by simp, ?_, by omega⟩
  · rw [List.map_map]
    exact hrow
  · intro s hs
    obtain ⟨x, hx, rfl⟩ := List.mem_map.1 hs
    have hx' : x ∈ strKeys D := hS.mem_iff.1 ((List.mergeSort_perm _ _).mem_iff.1 hx)
    exact strKeys_le h Ybaf.underlying9 x hx'

theorem sorted24 (b m : Nat) (D : DataW Unit) (w : World) (h : MB w b m D) (hm : m ≤ 4097) : Calls Ybaf.prog 22 #[.func (.func 30) #[] #[.pointer (some ⟨w.heap.size, 0, none⟩)]] (w.alloc (.cells #[.map (some b)] 33)) fun e w' =>
    ∃ oa on oc, e = .returned (.slice oa on oc) ∧ StrSlice w' oa on oc ∧ Below w.heap.size w w' := by
  have hs := h.size_le
  refine (callsIn_wide.1 (Ybaf.slices_Sorted_keys_22_24 b m D _ w h (by unfold maxLen; omega) (by omega))).mono ?_
  rintro e w' ⟨v, ss, rfl, hS, hrow, _, hb⟩
  obtain ⟨oa, on, oc, rfl, hss⟩ := strs_of h hm hS hrow
  exact ⟨oa, on, oc, rfl, hss, ((Below.refl _ w).alloc (Nat.le_refl _) _).trans (hb.mono (by simp))⟩

theorem sorted23 (b m : Nat) (D : DataW Unit) (w : World) (h : MD w b m D) (hm : m ≤ 4097) : Calls Ybaf.prog 22 #[.func (.func 29) #[] #[.pointer (some ⟨w.heap.size, 0, none⟩)]] (w.alloc (.cells #[.map (some b)] 34)) fun e w' =>
    ∃ oa on oc, e = .returned (.slice oa on oc) ∧ StrSlice w' oa on oc ∧ Below w.heap.size w w' := by
  have hs := h.size_le
  refine (callsIn_wide.1 (Ybaf.slices_Sorted_keys_22_23 b m D _ w h (by unfold maxLen; omega) (by omega))).mono ?_
  rintro e w' ⟨v, ss, rfl, hS, hrow, _, hb⟩
  obtain ⟨oa, on, oc, rfl, hss⟩ := strs_of h hm hS hrow
  exact ⟨oa, on, oc, rfl, hss, ((Below.refl _ w).alloc (Nat.le_refl _) _).trans (hb.mono (by simp))⟩

theorem keys23n (b n : Nat) (w : World) (hn : n = w.heap.size) : Calls Ybaf.prog 23 #[.map (some b)] w fun e w' => e = .returned (.func (.func 29) #[] #[.pointer (some ⟨n, 0, none⟩)]) ∧ w' = w.alloc (.cells #[.map (some b)] 34) := by
  subst hn
  exact keys23 b w
theorem sorted23n (b m n : Nat) (D : DataW Unit) (w : World) (hn : n = w.heap.size) (h : MD w b m D) (hm : m ≤ 4097) : Calls Ybaf.prog 22 #[.func (.func 29) #[] #[.pointer (some ⟨n, 0, none⟩)]] (w.alloc (.cells #[.map (some b)] 34)) fun e w' =>
    ∃ oa on oc, e = .returned (.slice oa on oc) ∧ StrSlice w' oa on oc ∧ Below w.heap.size w w' := by
  subst hn
  exact sorted23 b m D w h hm
end Go.Proofs.YbulkasgcFmt
