/-
  'LawS2191ARemove': the state while 'zzs2191abuild' builds. Our own work over the given program.
-/
import Derived.Test.YbulkasiuList
namespace Go.Proofs.Ybulkasiu
open Go.RowKit
set_option linter.unusedVariables false

theorem wpList_build_run {P : Program} (w : World) {ops : Array Oper} {rest : List Oper} {o : Oper} {a : Act} {Q : Exit → Act → World → Prop} (hg : o.guard = none) (t : TypeId) (parts : Array (Nat × Operand)) (ho : o.op = .build t parts)
    (vs : List (Nat × Value)) (hev : (parts.toList.map fun x => (x.1, a.eval x.2)) = vs) (v : Value) (hrun : (Instr.build t vs.toArray).run P w = .ok v w) (h : wpList P ops Q rest (a.put o.dst v) w) : wpList P ops Q (o :: rest) a w := by
  have hev' : (parts.map fun (i, x) => (i, a.eval x)) = vs.toArray := by
    rw [← hev]
    apply Array.toList_inj.1
    simp
  refine wpList_plain hg fun K' hK' => ?_
  unfold Oper.wp
  simp only [execOp, ho, hev']
  simp [hrun, Result.andThen]
  exact hK' _ _ h

/-- A row of n pointers to timers in block A. -/
def RowAt (w : World) (A n : Nat) (row : Nat → Value) : Prop := ∃ cs : Array Value, w.heap[A]? = some (.cells cs 29 (0, 0)) ∧ cs.size = n ∧ ∀ o, o < n → cs[o]? = some (row o)

theorem RowAt.cell {w : World} {A n : Nat} {row : Nat → Value} (h : RowAt w A n row) {o : Nat} (ho : o < n) : w.cell? ⟨A, o, none⟩ = some (row o) := by
  obtain ⟨cs, h1, h2, h3⟩ := h
  simp [World.cell?, h1, h3 o ho]

theorem RowAt.mark {w : World} {A n : Nat} {row : Nat → Value} (h : RowAt w A n row) (o : Nat) : w.frozen? ⟨A, o, none⟩ = false := by
  obtain ⟨cs, h1, _⟩ := h
  simp [World.frozen?, h1]

theorem RowAt.set {w : World} {A n : Nat} {row : Nat → Value} (h : RowAt w A n row) (o : Nat) (u : Value) : RowAt (w.setCell ⟨A, o, none⟩ u) A n (fun i => if i = o then u else row i) := by
  obtain ⟨cs, h1, h2, h3⟩ := h
  refine ⟨cs.setIfInBounds o u, ?_, by simp [h2], fun i hi => ?_⟩
  · simp only [World.setCell, Array.getElem?_modify, h1]
    simp
  · by_cases e : i = o
    · subst e
      simp [h2, hi]
    · rw [Array.getElem?_setIfInBounds_ne (Ne.symm e), h3 i hi]
      dsimp only
      rw [if_neg e]

theorem RowAt.same {w w' : World} {A n : Nat} {row : Nat → Value} (h : RowAt w A n row) (e : w'.heap[A]? = w.heap[A]?) : RowAt w' A n row := by
  obtain ⟨cs, h1, h2⟩ := h
  exact ⟨cs, e.trans h1, h2⟩

theorem RowAt.congr {w : World} {A n : Nat} {row row' : Nat → Value} (h : RowAt w A n row) (e : ∀ o, o < n → row o = row' o) : RowAt w A n row' := by
  obtain ⟨cs, h1, h2, h3⟩ := h
  exact ⟨cs, h1, h2, fun o ho => (h3 o ho).trans (by rw [e o ho])⟩

theorem ShardAt.same {w w' : World} {S : Nat} {f : Nat → Value} (h : ShardAt w S f) (e : w'.heap[S]? = w.heap[S]?) : ShardAt w' S f := by
  obtain ⟨cs, h1, h2⟩ := h
  exact ⟨cs, e.trans h1, h2⟩

theorem ShardAt.congr {w : World} {S : Nat} {f g : Nat → Value} (h : ShardAt w S f) (e : ∀ o, o < 729 → f o = g o) : ShardAt w S g := by
  obtain ⟨cs, h1, h2, h3⟩ := h
  exact ⟨cs, h1, h2, fun o ho => (h3 o ho).trans (by rw [e o ho])⟩

theorem TimerAt.same {w w' : World} {T : Nat} {p n : Value} {s : Int} (h : TimerAt w T p n s) (e : w'.heap[T]? = w.heap[T]?) : TimerAt w' T p n s := by
  obtain ⟨a0, b, c, d, e', g, h1⟩ := h
  exact ⟨a0, b, c, d, e', g, e.trans h1⟩

theorem set_other (w : World) (a : Addr) (u : Value) (g : Nat) (h : g ≠ a.block) : (w.setCell a u).heap[g]? = w.heap[g]? := Below.heap_setCell _ _ _ _ h

theorem build48 (x : Int) (w : World) : (Instr.build 48 #[(5, .int .i32 x)]).run Yba.prog w = .ok (.agg #[.pointer none, .nilFunc, .int .u64 0, .pointer none, .pointer none, .int .i32 x, .bool false, .bool false, .bool false]) w := by
  kernel_rfl

theorem info29 : (Yba.prog.info? 29).map (fun i => (i.zero, i.size, i.bytes)) = some (some (.pointer none), 1, 8) := by kernel_rfl

/-- The cells of a new row of pointers. -/
abbrev row0 (c : Nat) : Array Value := madeCells (Value.pointer none).cells c

theorem make25 (c : Nat) (hc : c ≤ 8) (w : World) : (Instr.makeSlice 25 (.int .i64 c) (.int .i64 c)).run Yba.prog w = .ok (.slice (some ⟨w.heap.size, 0, none⟩) c c) (w.alloc (.cells (row0 c) 29)) := by
  obtain ⟨i, hi, hz, h1, h2⟩ := info_parts info29
  have h := run_makeSlice (P := Yba.prog) w 25 29 i (.pointer none) Yba.underlying25 hi hz .i64 .i64 c c (by omega) (by omega) (by rw [h1]; omega) (by rw [h2]; omega) (by omega)
  rw [h1] at h
  simpa using h

theorem row0_at (c : Nat) : (row0 c).size = c ∧ ∀ o, o < c → (row0 c)[o]? = some (.pointer none) := by
  refine ⟨size_madeCells _ _, fun o ho => ?_⟩
  simp [row0, madeCells, Value.cells, ho]
  rw [Nat.mod_one]
  rfl

/-- A new shard's cells. -/
def fZ (x : Value) (o : Nat) : Value := (shardZ x)[o]?.getD (.pointer none)

theorem shardZ_size (x : Value) : (shardZ x).size = 729 := by simp [shardZ]

theorem fZ_cur (x : Value) : fZ x 4 = .int .u64 0 := by simp [fZ, shardZ]

theorem fZ_slot (x : Value) (o : Nat) (ho : o < 706) : fZ x (17 + o) = .pointer none := by
  simp only [fZ, shardZ]
  rw [Array.getElem?_append_left (by simp; omega), Array.getElem?_append_right (by simp)]
  simp
  rw [Array.getElem?_replicate, if_pos (by omega)]
  rfl

theorem shard_start {w : World} {S : Nat} {x : Value} (h : w.heap[S]? = some (.cells (shardZ x) 46 (0, 0))) : ShardAt w S (fZ x) := by
  refine ⟨shardZ x, h, shardZ_size x, fun o ho => ?_⟩
  have : o < (shardZ x).size := by rw [shardZ_size]; exact ho
  simp [fZ, this]

theorem row_start {w : World} {A c : Nat} (h : w.heap[A]? = some (.cells (row0 c) 29 (0, 0))) : RowAt w A c (fun _ => .pointer none) :=
  ⟨row0 c, h, (row0_at c).1, (row0_at c).2⟩

abbrev z11 : Obj := .cells #[.int .u64 0, .int .u64 0, .int .u64 0, .int .u64 0, .int .u64 0, .int .u64 0, .int .u64 0, .int .u64 0, .int .u64 0, .int .u64 0, .int .u64 0] 26

/-- The state while the list is built: t timers, row, shard. -/
structure BSt (w0 w : World) (N cnt sl t : Nat) (f row pr nt : Nat → Value) : Prop where
  res : w.heap[N]? = some z11
  shard : ShardAt w (N + 2) f
  row : RowAt w (N + 3) cnt row
  tim : ∀ i, i < t → TimerAt w (N + 4 + i) (pr i) (nt i) sl
  size : w.heap.size = N + 4 + t
  below : Below N w0 w

/-- A new timer's cells. -/
abbrev T0 (sl : Int) : Obj := .cells #[.pointer none, .nilFunc, .int .u64 0, .pointer none, .pointer none, .int .i32 sl, .bool false, .bool false, .bool false] 48

section
variable {w0 w : World} {N cnt sl t : Nat} {f row pr nt : Nat → Value}

theorem BSt.add (h : BSt w0 w N cnt sl t f row pr nt) (h1 : pr t = .pointer none) (h2 : nt t = .pointer none) :
    BSt w0 ((w.alloc (T0 sl)).setCell ⟨N + 3, t, none⟩ (ptr (N + 4 + t))) N cnt sl (t + 1) f (fun i => if i = t then ptr (N + 4 + t) else row i) pr nt := by
  have hs := h.size
  have k : ∀ g, g < w.heap.size → g ≠ N + 3 → ((w.alloc (T0 sl)).setCell ⟨N + 3, t, none⟩ (ptr (N + 4 + t))).heap[g]? = w.heap[g]? := fun g h1 h2 => (set_other _ _ _ _ h2).trans (Below.heap_alloc _ _ _ h1)
  refine ⟨(k N (by omega) (by omega)).trans h.res, h.shard.same (k _ (by omega) (by omega)), ?_, fun i hi => ?_, by simp [hs]; omega, (h.below.alloc (by omega) _).setCell (Nat.le_add_right _ _) _⟩
  · have := (h.row.same (w' := w.alloc (T0 sl)) (Below.heap_alloc _ _ _ (by omega))).set t (ptr (N + 4 + t))
    exact this
  · by_cases e : i < t
    · exact (h.tim i e).same (k _ (by omega) (by omega))
    · obtain rfl : i = t := by omega
      have e1 : ((w.alloc (T0 sl)).setCell ⟨N + 3, i, none⟩ (ptr (N + 4 + i))).heap[N + 4 + i]? = some (T0 sl) := by
        rw [set_other _ _ _ _ (by show N + 4 + i ≠ N + 3; omega), ← hs]
        exact (MapKept.heap_alloc w _).1
      rw [h1, h2]
      exact ⟨_, _, _, _, _, _, e1⟩

/-- The row's cell, a new timer made. -/
theorem BSt.room (h : BSt w0 w N cnt sl t f row pr nt) (o : Obj) {i : Nat} (hi : i < cnt) : (w.alloc o).cell? ⟨N + 3, i, none⟩ = some (row i) ∧ (w.alloc o).frozen? ⟨N + 3, i, none⟩ = false := by
  have hs := h.size
  have := h.row.same (w' := w.alloc o) (Below.heap_alloc _ _ _ (by omega))
  exact ⟨this.cell hi, this.mark i⟩

theorem BSt.setShard (h : BSt w0 w N cnt sl t f row pr nt) (o : Nat) (u : Value) : BSt w0 (w.setCell ⟨N + 2, o, none⟩ u) N cnt sl t (fun i => if i = o then u else f i) row pr nt := by
  have k : ∀ g, g ≠ N + 2 → (w.setCell ⟨N + 2, o, none⟩ u).heap[g]? = w.heap[g]? := fun g h => set_other _ _ _ _ h
  exact ⟨(k _ (by omega)).trans h.res, h.shard.set o u, h.row.same (k _ (by omega)), fun i hi => (h.tim i hi).same (k _ (by omega)), by simp [h.size], h.below.setCell (Nat.le_add_right _ _) _⟩

theorem BSt.setPrev (h : BSt w0 w N cnt sl t f row pr nt) (j : Nat) (u : Value) : BSt w0 (w.setCell ⟨N + 4 + j, 3, none⟩ u) N cnt sl t f row (fun i => if i = j then u else pr i) nt := by
  have k : ∀ g, g ≠ N + 4 + j → (w.setCell ⟨N + 4 + j, 3, none⟩ u).heap[g]? = w.heap[g]? := fun g h => set_other _ _ _ _ h
  refine ⟨(k _ (by omega)).trans h.res, h.shard.same (k _ (by omega)), h.row.same (k _ (by omega)), fun i hi => ?_, by simp [h.size], h.below.setCell (by show N ≤ N + 4 + j; omega) _⟩
  by_cases e : i = j
  · subst e
    simp only [if_true]
    exact (h.tim i hi).setPrev u
  · simp only [if_neg e]
    exact (h.tim i hi).same (k _ (by omega))

theorem BSt.setNext (h : BSt w0 w N cnt sl t f row pr nt) (j : Nat) (u : Value) : BSt w0 (w.setCell ⟨N + 4 + j, 4, none⟩ u) N cnt sl t f row pr (fun i => if i = j then u else nt i) := by
  have k : ∀ g, g ≠ N + 4 + j → (w.setCell ⟨N + 4 + j, 4, none⟩ u).heap[g]? = w.heap[g]? := fun g h => set_other _ _ _ _ h
  refine ⟨(k _ (by omega)).trans h.res, h.shard.same (k _ (by omega)), h.row.same (k _ (by omega)), fun i hi => ?_, by simp [h.size], h.below.setCell (by show N ≤ N + 4 + j; omega) _⟩
  by_cases e : i = j
  · subst e
    simp only [if_true]
    exact (h.tim i hi).setNext u
  · simp only [if_neg e]
    exact (h.tim i hi).same (k _ (by omega))

theorem BSt.drew (h : BSt w0 w N cnt sl t f row pr nt) : BSt w0 w.drew N cnt sl t f row pr nt := ⟨h.res, h.shard, h.row, h.tim, h.size, h.below.drew⟩

theorem BSt.congr {row' pr' nt' : Nat → Value} (h : BSt w0 w N cnt sl t f row pr nt) (e1 : ∀ i, i < cnt → row i = row' i) (e2 : ∀ i, i < t → pr i = pr' i) (e3 : ∀ i, i < t → nt i = nt' i) : BSt w0 w N cnt sl t f row' pr' nt' :=
  ⟨h.res, h.shard, h.row.congr e1, fun i hi => by rw [← e2 i hi, ← e3 i hi]; exact h.tim i hi, h.size, h.below⟩
end

/-- The state at its start. -/
theorem bst_start (w : World) (cnt sl : Nat) (pr nt : Nat → Value) :
    BSt w ((((w.alloc (.cells #[.int .u64 0, .int .u64 0, .int .u64 0, .int .u64 0, .int .u64 0, .int .u64 0, .int .u64 0, .int .u64 0, .int .u64 0, .int .u64 0, .int .u64 0] 26)).alloc (.map #[] 0)).alloc (.cells (shardZ (.map (some (w.heap.size + 1)))) 46)).alloc (.cells (row0 cnt) 29)) w.heap.size cnt sl 0 (fZ (.map (some (w.heap.size + 1)))) (fun _ => .pointer none) pr nt := by
  have hb : ∀ (u : World) (o : Obj) (g : Nat), g < u.heap.size → (u.alloc o).heap[g]? = u.heap[g]? := fun u o g hg => Below.heap_alloc _ _ _ hg
  have hn : ∀ (u : World) (o : Obj), (u.alloc o).heap[u.heap.size]? = some o := fun u o => (MapKept.heap_alloc u o).1
  have hz : ∀ (u : World) (o : Obj), (u.alloc o).heap.size = u.heap.size + 1 := fun u o => by simp
  refine ⟨?_, shard_start ?_, row_start ?_, fun i hi => absurd hi (by omega), by simp only [hz], ?_⟩
  · rw [hb _ _ _ (by simp only [hz]; omega), hb _ _ _ (by simp only [hz]; omega), hb _ _ _ (by simp only [hz]; omega)]
    exact hn w _
  · rw [hb _ _ _ (by simp only [hz]; omega)]
    have := hn ((w.alloc (.cells #[.int .u64 0, .int .u64 0, .int .u64 0, .int .u64 0, .int .u64 0, .int .u64 0, .int .u64 0, .int .u64 0, .int .u64 0, .int .u64 0, .int .u64 0] 26)).alloc (.map #[] 0)) (.cells (shardZ (.map (some (w.heap.size + 1)))) 46)
    simp only [hz] at this
    exact this
  · have := hn (((w.alloc (.cells #[.int .u64 0, .int .u64 0, .int .u64 0, .int .u64 0, .int .u64 0, .int .u64 0, .int .u64 0, .int .u64 0, .int .u64 0, .int .u64 0, .int .u64 0] 26)).alloc (.map #[] 0)).alloc (.cells (shardZ (.map (some (w.heap.size + 1)))) 46)) (.cells (row0 cnt) 29)
    simp only [hz] at this
    exact this
  · exact ((((Below.refl _ w).alloc (Nat.le_refl _) _).alloc (by simp only [hz]; omega) _).alloc (by simp only [hz]; omega) _).alloc (by simp only [hz]; omega) _

/-- What is known of the shard's cells. -/
structure FSt (f : Nat → Value) (n : Int) (sl k : Nat) (hd : Value) : Prop where
  cur : f 4 = .int .u64 0
  num : f 5 = .int .i64 n
  head : f (17 + sl) = hd
  rest : ∀ o, o < 706 → o ≠ sl → f (17 + o) = .pointer none
  occ : ∀ l, l < k → ∃ x, f (6 + l) = .int .u64 x

theorem fst_start (x : Value) (n : Int) (sl : Nat) (hd : Value) (hsl : sl < 706) : FSt (fun i => if i = 5 then .int .i64 n else if i = 17 + sl then hd else fZ x i) n sl 0 hd := by
  refine ⟨?_, by simp, ?_, fun o ho hne => ?_, fun l hl => absurd hl (by omega)⟩
  · have : ¬ 4 = 17 + sl := by omega
    simp [this, fZ_cur]
  · have : ¬ 17 + sl = 5 := by omega
    simp [this]
  · have h1 : ¬ 17 + o = 5 := by omega
    have h2 : ¬ 17 + o = 17 + sl := by omega
    simp only [if_neg h1, if_neg h2]
    exact fZ_slot x o ho

theorem FSt.put {f : Nat → Value} {n : Int} {sl k : Nat} {hd : Value} (h : FSt f n sl k hd) (l : Nat) (hl : l < 11) (x : Int) : FSt (fun i => if i = 6 + l then .int .u64 x else f i) n sl k hd := by
  refine ⟨?_, ?_, ?_, fun o ho hne => ?_, fun j hj => ?_⟩
  · rw [if_neg (by omega)]
    exact h.cur
  · rw [if_neg (by omega)]
    exact h.num
  · rw [if_neg (by omega)]
    exact h.head
  · rw [if_neg (by omega)]
    exact h.rest o ho hne
  · by_cases e : j = l
    · exact ⟨x, by rw [if_pos (by omega)]⟩
    · rw [if_neg (by omega)]
      exact h.occ j hj

theorem FSt.push {f : Nat → Value} {n : Int} {sl k : Nat} {hd : Value} (h : FSt f n sl k hd) (hk : k < 11) (x : Int) : FSt (fun i => if i = 6 + k then .int .u64 x else f i) n sl (k + 1) hd := by
  have g := h.put k hk x
  refine ⟨g.cur, g.num, g.head, g.rest, fun j hj => ?_⟩
  by_cases e : j = k
  · exact ⟨x, by rw [if_pos (by omega)]⟩
  · exact g.occ j (by omega)

/-- The word of the level l. -/
def gw (f : Nat → Value) (l : Nat) : Int := match f (6 + l) with
  | .int _ x => x
  | _ => 0

theorem FSt.word {f : Nat → Value} {n : Int} {sl k : Nat} {hd : Value} (h : FSt f n sl k hd) {l : Nat} (hl : l < k) : f (6 + l) = .int .u64 (gw f l) := by
  obtain ⟨x, hx⟩ := h.occ l hl
  simp only [gw, hx]
end Go.Proofs.Ybulkasiu
