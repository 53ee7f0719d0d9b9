/-
  'LawS2186CCount': its argument (a slice of records with a slice of strings in each) opened. Our own work over the given program.
-/
import Derived.Test.YbulkasgcFmtCWalk
import Derived.Deep.Slices
import Derived.ChangeSame
import Derived.ChangeArms
import Derived.SliceStrings
import Derived.SizedLaws
namespace Go.Proofs.YbulkasgcFmt
open Go.RowKit Go.Deep Go.ChangeShapes Go.WideShapes

theorem six {α : Type} : ∀ {l : List α}, l.length = 6 → ∃ a b c d e f, l = [a, b, c, d, e, f]
  | [a, b, c, d, e, f], _ => ⟨a, b, c, d, e, f, rfl⟩

theorem lt_of_cell {w : World} {a : Addr} {v : Value} (h : w.cell? a = some v) : a.block < w.heap.size := by
  unfold World.cell? at h
  cases hb : w.heap[a.block]? with
  | none => rw [hb] at h; simp at h
  | some o => exact (Array.getElem?_eq_some_iff.1 hb).1

theorem i64_bounds {n : Int} (h : (Lit.int .i64 n).wf = true) : -9223372036854775808 ≤ n ∧ n ≤ 9223372036854775807 := by
  simp [Lit.wf, IntKind.min, IntKind.max, IntKind.signed, IntKind.bits] at h
  omega

theorem cells27 : Ybaf.prog.cellsOf 27 = 6 := by kernel_rfl
theorem cells9 : Ybaf.prog.cellsOf 9 = 1 := by kernel_rfl
theorem cells2 : Ybaf.prog.cellsOf 2 = 1 := by kernel_rfl
theorem cells4 : Ybaf.prog.cellsOf 4 = 1 := by kernel_rfl
theorem cells25 : Ybaf.prog.cellsOf 25 = 1 := by kernel_rfl
theorem bytes9 : Ybaf.prog.bytesOf 9 = 16 := by kernel_rfl

theorem weightsAll_mem {H : Type} {P : Program} {e : TypeId} : ∀ {l : List (DataW H)} {d : DataW H}, d ∈ l → ∀ n ∈ d.weights P e, n ∈ DataW.weightsAll P e l
  | x :: r, d, hd, n, hn => by
    simp only [DataW.weightsAll, List.mem_append]
    rcases List.mem_cons.1 hd with rfl | h
    · exact Or.inl hn
    · exact Or.inr (weightsAll_mem h n hn)

section
variable {H : Type} {enc : TypeId × Value → H} {w : World}

/-- A slice of strings among the record's fields. -/
theorem open_others {n : Nat} {v : Value} {y : DataW H × List MemPlace} (h : DataW.trod enc Ybaf.prog w 0 (fun _ => true) true n 25 [v] = some y) :
    ∃ (oa : Option Addr) (on oc : Nat) (ss : List ByteArray), v = .slice oa on oc ∧ ((∀ k ∈ y.1.weights Ybaf.prog 25, k ≤ reachBytes) → SrcOk w oa on oc ss) := by
  rcases open_strings Ybaf.underlying25 Ybaf.underlying9 cells9 h with ⟨hcs, _⟩ | ⟨a, len, cap, l, hcs, _, hl, hm, hz, hx, hcell, _⟩
  · obtain rfl : v = .slice none 0 0 := by simpa using hcs
    exact ⟨none, 0, 0, [], rfl, fun _ => ⟨rfl, .inl ⟨rfl, rfl, rfl⟩⟩⟩
  · obtain rfl : v = .slice (some a) len cap := by simpa using hcs
    have hz' : l.length = cap := by simpa using hz
    refine ⟨some a, len, cap, l.take len, rfl, fun hw => ⟨by simp; omega, .inr ⟨a, rfl, ?_, fun hp => ?_, fun j u hj => ?_⟩⟩⟩
    · have := hw ((l.take len).length * 16 + (l.drop len).length * 16) (by
        rw [hx]
        simp only [DataW.weights, Ybaf.underlying25, bytes9, List.mem_cons]
        left
        simp [strs]
        omega)
      unfold reachBytes at this
      simp at this
      omega
    · have := hcell 0 (by omega)
      exact lt_of_cell this
    · have hjl : j < len := by
        have := (List.getElem?_eq_some_iff.1 hj).1
        simp at this
        omega
      rw [hcell j (by omega)]
      simp [List.getElem?_take_of_lt hjl] at hj
      obtain ⟨x, hx1, rfl⟩ := hj
      simp [List.getD, hx1]

/-- One record. -/
theorem open_rec {n : Nat} {cs : List Value} {x : DataW H × List MemPlace} (h : DataW.trod enc Ybaf.prog w 0 (fun _ => true) true n 27 cs = some x) :
    ∃ q : SRec × List ByteArray, cs = q.1.cells ∧ q.1.Num ∧ ((∀ k ∈ x.1.weights Ybaf.prog 27, k ≤ reachBytes) → SrcOk w q.1.oa q.1.on q.1.oc q.2) := by
  obtain ⟨xs, k, _, rfl, hlen, hxl, hf⟩ := DataW.trod_struct Ybaf.underlying27 h
  rw [cells27] at hlen
  obtain ⟨y0, y1, y2, y3, y4, y5, rfl⟩ := six hxl
  obtain ⟨c0, c1, c2, c3, c4, c5, rfl⟩ := six hlen
  have g0 := hf 0 _ rfl
  have g1 := hf 1 _ rfl
  have g2 := hf 2 _ rfl
  have g3 := hf 3 _ rfl
  have g4 := hf 4 _ rfl
  have g5 := hf 5 _ rfl
  simp [cells9, cells2, cells4, cells25] at g0 g1 g2 g3 g4 g5
  obtain ⟨a0, e0, _, _⟩ := DataW.trod_string Ybaf.underlying9 g0
  obtain ⟨a1, e1, _, w1⟩ := DataW.trod_int Ybaf.underlying2 g1
  obtain ⟨oa, on, oc, ss, rfl, hs⟩ := open_others g2
  obtain ⟨a3, e3, _, _⟩ := DataW.trod_string Ybaf.underlying9 g3
  obtain ⟨a4, e4, _, w4⟩ := DataW.trod_int Ybaf.underlying2 g4
  obtain ⟨a5, e5, _⟩ := DataW.trod_bool Ybaf.underlying4 g5
  simp only [List.cons.injEq, and_true] at e0 e1 e3 e4 e5
  subst e0 e1 e3 e4 e5
  have b1 := i64_bounds w1
  have b4 := i64_bounds w4
  refine ⟨⟨⟨a0, a1, oa, on, oc, a3, a4, a5⟩, ss⟩, rfl, ⟨b1.1, b1.2, b4.1, b4.2⟩, fun hw => hs fun m hm => hw m ?_⟩
  simp only [List.map_cons, List.map_nil, DataW.weights, Ybaf.underlying27, DataW.weightsEach, List.mem_append]
  exact Or.inr (Or.inr (Or.inl hm))

/-- The argument, opened. -/
theorem open_src {ao : Option Addr} {n cap : Nat} {d : DataW H} {p : List MemPlace} (h : DataW.Trod enc Ybaf.prog w 0 (fun _ => true) true 22 (.slice ao n cap) d p) (hw : ∀ k ∈ d.weights Ybaf.prog 22, k ≤ reachBytes) :
    n ≤ maxLen ∧ ∃ (zs : Nat → SRec) (sss : Nat → List ByteArray), SrcRow w ao n zs sss := by
  obtain ⟨fuel, hf⟩ := h
  rcases open_slice Ybaf.underlying22 hf with ⟨hcs, _⟩ | ⟨a, len, cap', m, nn, D, Pl, hcs, _, hl, hm, hmm, hx, hel⟩
  · simp [Value.cells] at hcs
    obtain ⟨rfl, rfl, rfl⟩ := hcs
    exact ⟨Nat.zero_le _, fun _ => ⟨.empty, 0, none, 0, 0, .empty, 0, false⟩, fun _ => [], ⟨fun h => absurd h (by omega), fun k hk => absurd hk (by omega), fun k hk => absurd hk (by omega)⟩⟩
  · simp [Value.cells] at hcs
    obtain ⟨rfl, rfl, rfl⟩ := hcs
    obtain rfl : m = cap := by simpa using hmm
    simp only [Prod.mk.injEq] at hx
    obtain ⟨rfl, _⟩ := hx
    refine ⟨by omega, ?_⟩
    have : Inhabited (SRec × List ByteArray) := ⟨⟨⟨.empty, 0, none, 0, 0, .empty, 0, false⟩, []⟩⟩
    obtain ⟨q, hq⟩ := choose_lt (n := n) (p := fun i (q : SRec × List ByteArray) => w.cells? 0 (a.add (i * 6)) 6 = some q.1.cells ∧ q.1.Num ∧ SrcOk w q.1.oa q.1.on q.1.oc q.2) (fun i hi => by
      obtain ⟨cs', h1, h2⟩ := hel i (by omega)
      obtain ⟨q, rfl, hn, hs⟩ := open_rec h2
      rw [cells27] at h1
      refine ⟨q, h1, hn, hs fun k hk => hw k ?_⟩
      simp only [DataW.weights, Ybaf.underlying22, List.mem_cons, List.mem_append]
      exact Or.inr (Or.inl (weightsAll_mem (List.mem_map.2 ⟨i, List.mem_range.2 hi, rfl⟩) k hk)))
    have hcell : ∀ k, k < n → ∀ j v, (q k).1.cells[j]? = some v → w.cell? (a.add (k * 6 + j)) = some v := by
      intro k hk j v hj
      obtain ⟨_, hlen, hc⟩ := World.cells?_some (hq k hk).1
      have hj6 : j < 6 := by
        have := (List.getElem?_eq_some_iff.1 hj).1
        simpa [SRec.cells] using this
      have := hc j hj6
      rw [add_add] at this
      rw [this]
      exact hj
    refine ⟨fun k => (q k).1, fun k => (q k).2, ⟨fun hp => ?_, fun k hk => (hq k hk).2.1, fun k hk => (hq k hk).2.2⟩⟩
    obtain ⟨b, off, spot⟩ := a
    have h00 := hcell 0 hp 0 _ rfl
    have hspot : spot = none := by simpa [Addr.add] using World.cell?_spot h00
    subst hspot
    refine ⟨b, off, rfl, lt_of_cell h00, fun k hk j v hj => ?_⟩
    have := hcell k hk j v hj
    rw [add_plain] at this
    rw [show off + k * 6 + j = off + (k * 6 + j) by omega]
    exact this
end
end Go.Proofs.YbulkasgcFmt
