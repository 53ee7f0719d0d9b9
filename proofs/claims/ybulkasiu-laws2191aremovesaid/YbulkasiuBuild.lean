/-
  'LawS2191ARemove': 'zzs2191abuild'. Our own work over the given program.
-/
import Derived.Test.YbulkasiuBState
namespace Go.Proofs.Ybulkasiu
open Go.RowKit
set_option linter.unusedVariables false

/-- The timers' blocks. -/
def bq (N : Nat) (i : Nat) : Nat := N + 4 + i

/-- The row of the first k timers. -/
def rowK (N k : Nat) (i : Nat) : Value := if i < k then ptr (N + 4 + i) else .pointer none

theorem row_more (N k : Nat) : (fun i => if i = k then ptr (N + 4 + k) else rowK N k i) = rowK N (k + 1) := by
  funext i
  unfold rowK
  by_cases h : i = k
  · subst h
    simp
  · have : (i < k + 1) = (i < k) := by simp; omega
    simp only [h, if_false, this]

/-- The neighbours of the first k timers. -/
def prK (N k : Nat) (i : Nat) : Value := if i < k then pv (bq N) i else .pointer none
def ntK (N cnt k : Nat) (i : Nat) : Value := if i < k then nx (bq N) cnt i else .pointer none

theorem prK_first (N : Nat) : prK N 0 = prK N 1 := by
  funext i
  unfold prK pv
  by_cases h : i = 0
  · simp [h]
  · have : ¬ i < 1 := by omega
    simp [this]

theorem prK_more (N k : Nat) : (fun i => if i = k + 1 then ptr (N + 4 + k) else prK N (k + 1) i) = prK N (k + 1 + 1) := by
  funext i
  unfold prK
  by_cases h : i = k + 1
  · subst h
    simp [pv, bq]
  · have : (i < k + 1 + 1) = (i < k + 1) := by simp; omega
    simp only [h, if_false, this]

theorem ntK_more (N cnt k : Nat) (hk : k + 1 < cnt) : (fun i => if i = k then ptr (N + 4 + (k + 1)) else ntK N cnt k i) = ntK N cnt (k + 1) := by
  funext i
  unfold ntK
  by_cases h : i = k
  · subst h
    simp [nx, bq, hk]
  · have : (i < k + 1) = (i < k) := by simp; omega
    simp only [h, if_false, this]

theorem ntK_last (N cnt k : Nat) (hk : ¬ k + 1 < cnt) : ntK N cnt k = ntK N cnt (k + 1) := by
  funext i
  unfold ntK
  by_cases h : i = k
  · subst h
    simp [nx, hk]
  · have : (i < k + 1) = (i < k) := by simp; omega
    simp only [this]

theorem k_zero (N cnt : Nat) : (fun _ => Value.pointer none) = prK N 0 ∧ (fun _ => Value.pointer none) = ntK N cnt 0 := by
  constructor <;> (funext i; simp [prK, ntK])

/-- What a round of the second loop reads. -/
theorem BSt.reads {w0 w : World} {N cnt sl : Nat} {f pr nt : Nat → Value} (h : BSt w0 w N cnt sl cnt f (rowK N cnt) pr nt) {k : Nat} (hk : k < cnt) :
    w.cell? ⟨N + 3, k, none⟩ = some (ptr (N + 4 + k)) ∧ (∃ x, w.cell? ⟨N + 4 + k, 3, none⟩ = some x) ∧ (∃ x, w.cell? ⟨N + 4 + k, 4, none⟩ = some x) ∧ w.frozen? ⟨N + 4 + k, 3, none⟩ = false ∧ w.frozen? ⟨N + 4 + k, 4, none⟩ = false := by
  obtain ⟨a, b, c, d, e, g⟩ := (h.tim k hk).cells
  refine ⟨(h.row.cell hk).trans ?_, ⟨_, a⟩, ⟨_, b⟩, d, e⟩
  simp [rowK, hk]

/-- The list stands; k words of the occupancy are written. -/
def L3 (w0 w : World) (N cnt sl k : Nat) (n : Int) : Prop := ∃ f, BSt w0 w N cnt sl cnt f (rowK N cnt) (prK N cnt) (ntK N cnt cnt) ∧ FSt f n sl k (ptr (N + 4))

theorem L3.push {w0 w : World} {N cnt sl k : Nat} {n : Int} (h : L3 w0 w N cnt sl k n) (hk : k < 11) (x : Int) : L3 w0 (w.setCell ⟨N + 2, 6 + k, none⟩ (.int .u64 x)) N cnt sl (k + 1) n := by
  obtain ⟨f, h1, h2⟩ := h
  exact ⟨_, h1.setShard (6 + k) (.int .u64 x), h2.push hk x⟩

theorem L3.put {w0 w : World} {N cnt sl k : Nat} {n : Int} (h : L3 w0 w N cnt sl k n) (l : Nat) (hl : l < 11) (x : Int) : L3 w0 (w.setCell ⟨N + 2, 6 + l, none⟩ (.int .u64 x)).drew N cnt sl k n := by
  obtain ⟨f, h1, h2⟩ := h
  exact ⟨_, (h1.setShard (6 + l) (.int .u64 x)).drew, h2.put l hl x⟩

theorem l3_start {w0 w : World} {N cnt sl : Nat} {x : Value} (n : Int) (hsl : sl < 706) (h : BSt w0 w N cnt sl cnt (fZ x) (rowK N cnt) (prK N cnt) (ntK N cnt cnt)) : L3 w0 (((w.setCell ⟨N + 2, 17 + sl, none⟩ (ptr (N + 4))).setCell ⟨N + 2, 5, none⟩ (.int .i64 n))).drew N cnt sl 0 n :=
  ⟨_, ((h.setShard (17 + sl) (ptr (N + 4))).setShard 5 (.int .i64 n)).drew, fst_start x n sl _ hsl⟩

theorem L3.cell {w0 w : World} {N cnt sl k : Nat} {n : Int} (h : L3 w0 w N cnt sl k n) (l : Nat) (hl : l < 11) : (∃ x, w.cell? ⟨N + 2, 6 + l, none⟩ = some x) ∧ w.frozen? ⟨N + 2, 6 + l, none⟩ = false ∧ (l < k → ∃ x, w.cell? ⟨N + 2, 6 + l, none⟩ = some (.int .u64 x)) := by
  obtain ⟨f, h1, h2⟩ := h
  refine ⟨⟨_, h1.shard.cell (by omega)⟩, h1.shard.mark _, fun hk => ?_⟩
  obtain ⟨x, hx⟩ := h2.occ l hk
  exact ⟨x, by rw [← hx]; exact h1.shard.cell (by omega)⟩

/-- The words of the occupancy, each by its cell. -/
theorem words_at {w : World} {S : Nat} {f : Nat → Value} {n : Int} {sl : Nat} {hd : Value} (h : ShardAt w S f) (hf : FSt f n sl 11 hd) :
    w.cell? ⟨S, 6, none⟩ = some (.int .u64 (gw f 0)) ∧ w.cell? ⟨S, 7, none⟩ = some (.int .u64 (gw f 1)) ∧ w.cell? ⟨S, 8, none⟩ = some (.int .u64 (gw f 2)) ∧ w.cell? ⟨S, 9, none⟩ = some (.int .u64 (gw f 3)) ∧ w.cell? ⟨S, 10, none⟩ = some (.int .u64 (gw f 4)) ∧ w.cell? ⟨S, 11, none⟩ = some (.int .u64 (gw f 5)) ∧ w.cell? ⟨S, 12, none⟩ = some (.int .u64 (gw f 6)) ∧ w.cell? ⟨S, 13, none⟩ = some (.int .u64 (gw f 7)) ∧ w.cell? ⟨S, 14, none⟩ = some (.int .u64 (gw f 8)) ∧ w.cell? ⟨S, 15, none⟩ = some (.int .u64 (gw f 9)) ∧ w.cell? ⟨S, 16, none⟩ = some (.int .u64 (gw f 10)) := by
  have k : ∀ l, l < 11 → w.cell? ⟨S, 6 + l, none⟩ = some (.int .u64 (gw f l)) := fun l hl => by rw [h.cell (by omega), hf.word hl]
  exact ⟨k 0 (by omega), k 1 (by omega), k 2 (by omega), k 3 (by omega), k 4 (by omega), k 5 (by omega), k 6 (by omega), k 7 (by omega), k 8 (by omega), k 9 (by omega), k 10 (by omega)⟩

theorem res_at {w : World} {N : Nat} (h : w.heap[N]? = some z11) :
    w.cell? ⟨N, 0, none⟩ = some (.int .u64 0) ∧ w.cell? ⟨N, 1, none⟩ = some (.int .u64 0) ∧ w.cell? ⟨N, 2, none⟩ = some (.int .u64 0) ∧ w.cell? ⟨N, 3, none⟩ = some (.int .u64 0) ∧ w.cell? ⟨N, 4, none⟩ = some (.int .u64 0) ∧ w.cell? ⟨N, 5, none⟩ = some (.int .u64 0) ∧ w.cell? ⟨N, 6, none⟩ = some (.int .u64 0) ∧ w.cell? ⟨N, 7, none⟩ = some (.int .u64 0) ∧ w.cell? ⟨N, 8, none⟩ = some (.int .u64 0) ∧ w.cell? ⟨N, 9, none⟩ = some (.int .u64 0) ∧ w.cell? ⟨N, 10, none⟩ = some (.int .u64 0) ∧
    w.frozen? ⟨N, 0, none⟩ = false ∧ w.frozen? ⟨N, 1, none⟩ = false ∧ w.frozen? ⟨N, 2, none⟩ = false ∧ w.frozen? ⟨N, 3, none⟩ = false ∧ w.frozen? ⟨N, 4, none⟩ = false ∧ w.frozen? ⟨N, 5, none⟩ = false ∧ w.frozen? ⟨N, 6, none⟩ = false ∧ w.frozen? ⟨N, 7, none⟩ = false ∧ w.frozen? ⟨N, 8, none⟩ = false ∧ w.frozen? ⟨N, 9, none⟩ = false ∧ w.frozen? ⟨N, 10, none⟩ = false := by
  simp [World.cell?, World.frozen?, h]

/-- What 'zzs2191abuild' leaves. -/
structure Built (w0 w : World) (N cnt sl : Nat) (n : Int) (f : Nat → Value) : Prop where
  shard : ShardAt w (N + 2) f
  row : RowAt w (N + 3) cnt (rowK N cnt)
  tim : ∀ i, i < cnt → TimerAt w (N + 4 + i) (prK N cnt i) (ntK N cnt cnt i) sl
  size : w.heap.size = N + 4 + cnt
  below : Below N w0 w
  fst : FSt f n sl 11 (ptr (N + 4))

/-- The occupancy as a value. -/
abbrev occA (f : Nat → Value) : Value := .agg #[.int .u64 (gw f 0), .int .u64 (gw f 1), .int .u64 (gw f 2), .int .u64 (gw f 3), .int .u64 (gw f 4), .int .u64 (gw f 5), .int .u64 (gw f 6), .int .u64 (gw f 7), .int .u64 (gw f 8), .int .u64 (gw f 9), .int .u64 (gw f 10)]

/-- Eleven stores that fill a variable of eleven cells. -/
def fill11 (w : World) (T : Nat) (f : Nat → Value) : World := ((((((((((w.setCell ⟨T, 0, none⟩ (.int .u64 (gw f 0))).setCell ⟨T, 1, none⟩ (.int .u64 (gw f 1))).setCell ⟨T, 2, none⟩ (.int .u64 (gw f 2))).setCell ⟨T, 3, none⟩ (.int .u64 (gw f 3))).setCell ⟨T, 4, none⟩ (.int .u64 (gw f 4))).setCell ⟨T, 5, none⟩ (.int .u64 (gw f 5))).setCell ⟨T, 6, none⟩ (.int .u64 (gw f 6))).setCell ⟨T, 7, none⟩ (.int .u64 (gw f 7))).setCell ⟨T, 8, none⟩ (.int .u64 (gw f 8))).setCell ⟨T, 9, none⟩ (.int .u64 (gw f 9))).setCell ⟨T, 10, none⟩ (.int .u64 (gw f 10))

theorem fill11_other (w : World) (T : Nat) (f : Nat → Value) (g : Nat) (h : g ≠ T) : (fill11 w T f).heap[g]? = w.heap[g]? := by
  simp only [fill11]
  rw [set_other _ _ _ _ h, set_other _ _ _ _ h, set_other _ _ _ _ h, set_other _ _ _ _ h, set_other _ _ _ _ h, set_other _ _ _ _ h, set_other _ _ _ _ h, set_other _ _ _ _ h, set_other _ _ _ _ h, set_other _ _ _ _ h, set_other _ _ _ _ h]

theorem fill11_below {w0 w : World} {N T : Nat} (h : Below N w0 w) (hT : N ≤ T) (f : Nat → Value) : Below N w0 (fill11 w T f) :=
  by unfold fill11; exact ((((((((((h.setCell hT _).setCell hT _).setCell hT _).setCell hT _).setCell hT _).setCell hT _).setCell hT _).setCell hT _).setCell hT _).setCell hT _).setCell hT _

theorem fill11_size (w : World) (T : Nat) (f : Nat → Value) : (fill11 w T f).heap.size = w.heap.size := by simp [fill11]

theorem fill11_at {w : World} {T : Nat} (h : w.heap[T]? = some z11) (f : Nat → Value) : (fill11 w T f).heap[T]? = some (.cells #[.int .u64 (gw f 0), .int .u64 (gw f 1), .int .u64 (gw f 2), .int .u64 (gw f 3), .int .u64 (gw f 4), .int .u64 (gw f 5), .int .u64 (gw f 6), .int .u64 (gw f 7), .int .u64 (gw f 8), .int .u64 (gw f 9), .int .u64 (gw f 10)] 26 (0, 0)) := by
  simp only [fill11, World.setCell, Array.getElem?_modify, h]
  simp

theorem fill11_drew {w : World} {T : Nat} (h : w.heap[T]? = some z11) (f : Nat → Value) : (fill11 w T f).drew.heap[T]? = some (.cells #[.int .u64 (gw f 0), .int .u64 (gw f 1), .int .u64 (gw f 2), .int .u64 (gw f 3), .int .u64 (gw f 4), .int .u64 (gw f 5), .int .u64 (gw f 6), .int .u64 (gw f 7), .int .u64 (gw f 8), .int .u64 (gw f 9), .int .u64 (gw f 10)] 26 (0, 0)) := by
  have e : ∀ u : World, u.drew.heap = u.heap := fun _ => rfl
  rw [e]
  exact fill11_at h f

theorem Built.drew {w0 w : World} {N cnt sl : Nat} {n : Int} {f : Nat → Value} (h : Built w0 w N cnt sl n f) : Built w0 w.drew N cnt sl n f := ⟨h.shard, h.row, h.tim, h.size, h.below.drew, h.fst⟩

theorem built_of {w0 w : World} {N cnt sl : Nat} {n : Int} {f : Nat → Value} (h : BSt w0 w N cnt sl cnt f (rowK N cnt) (prK N cnt) (ntK N cnt cnt)) (hf : FSt f n sl 11 (ptr (N + 4))) : Built w0 (fill11 w N f).drew N cnt sl n f :=
  Built.drew ⟨h.shard.same (fill11_other _ _ _ _ (by omega)), h.row.same (fill11_other _ _ _ _ (by omega)), fun i hi => (h.tim i hi).same (fill11_other _ _ _ _ (by omega)), (fill11_size w N f).trans h.size, fill11_below h.below (Nat.le_refl _) f, hf⟩

theorem results_ttc {P : Program} {fn : Func} {t u p : Tmp} {ty : TypeId} (h : fn.results = #[.tmp t, .tmp u, .cell p ty]) (tmps : Array Value) (w : World) (g : Nat) (t' : TypeId) (cs : Array Value) (fr : Nat × Nat) (d : TypeDesc)
    (hp : tmps.getD p undef = .pointer (some ⟨g, 0, none⟩)) (hg : w.heap[g]? = some (.cells cs t' fr))
    (hu : P.underlying ty = some d) (hd : (match d with | .struct _ | .array _ _ => true | _ => false) = true) (hi : (P.info? ty).map (·.size) = some cs.size) :
    (results fn tmps).run P w = .ok (.tuple #[tmps.getD t undef, tmps.getD u undef, .agg cs]) w := by
  have hp' : tmps[p]?.getD undef = .pointer (some ⟨g, 0, none⟩) := by simpa using hp
  simp [results, h, hp', asAddr, run_loadVar_row w g t' ty cs fr d hg hu hd hi]

theorem info26 : (Yba.prog.info? 26).map (·.size) = some 11 := by kernel_rfl

theorem size3 (w : World) (a b c : Obj) : (((w.alloc a).alloc b).alloc c).heap.size = w.heap.size + 3 := by simp

set_option maxRecDepth 100000 in
set_option maxHeartbeats 1000000 in
theorem build_any (sl cnt : Nat) (n other : Int) (w : World) (hsl : sl < 706) (hc1 : 1 ≤ cnt) (hc8 : cnt ≤ 8) :
    Calls Yba.prog 6 #[.int .i64 sl, .int .i64 cnt, .int .i64 n, .int .u64 other] w fun e w' => ∃ f, e = .returned (.tuple #[ptr (w.heap.size + 2), .slice (some ⟨w.heap.size + 3, 0, none⟩) cnt cnt, occA f]) ∧ Built w w' w.heap.size cnt sl n f := by
  have hmm := @run_makeMap Yba.prog
  have hmk := make25 cnt hc8
  have hb48 := build48
  go_enter Yba.func6, Yba.ntmps6
  go_upto_region 1 with fail
  go_cut [11] (fun s11 wx => s11 = ptr (w.heap.size + 2) ∧ wx = ((w.alloc z11).alloc (.map #[] 0)).alloc (.cells (shardZ (.map (some (w.heap.size + 1)))) 46))
  case first =>
    go_wp2_with (refine wpList_build_run _ rfl 46 _ rfl _ rfl _ (build46 _ _) ?_)
    go_meet
    exact ⟨rfl, rfl⟩
  case rest =>
  obtain ⟨rfl, rfl⟩ := hcut
  go_upto_region 2 with fail
  go_cut [12] (fun s12 wx => s12 = .slice (some ⟨w.heap.size + 3, 0, none⟩) cnt cnt ∧ BSt w wx w.heap.size cnt sl 0 (fZ (.map (some (w.heap.size + 1)))) (rowK w.heap.size 0) (fun _ => .pointer none) (fun _ => .pointer none))
  case first =>
    go_wp2
    go_meet
    refine ⟨rfl, bst_start w cnt sl _ _⟩
  case rest =>
  obtain ⟨rfl, B⟩ := hcut
  clear hmm hmk
  go_wp2_with fail
  go_loopg [13] cnt (fun r i wr => ∃ k : Nat, k + r = cnt ∧ i = .int .i64 k ∧ BSt w wr w.heap.size cnt sl k (fZ (.map (some (w.heap.size + 1)))) (rowK w.heap.size k) (fun _ => .pointer none) (fun _ => .pointer none))
  case atStart => exact ⟨0, by omega, rfl, B⟩
  case round =>
    obtain ⟨k, hk, rfl, G⟩ := hrel
    clear B
    by_cases hlt : k < cnt
    · have hsz := G.size
      obtain ⟨cR, mR⟩ := G.room (T0 sl) hlt
      go_wp2_with (refine wpList_build_run _ rfl 48 _ rfl _ rfl _ (build48 _ _) ?_)
      go_roundg (gk - 1)
      case measure => omega
      case rel =>
        have := G.add rfl rfl
        rw [row_more] at this
        exact ⟨k + 1, by omega, by go_num, this⟩
    · obtain rfl : k = cnt := by omega
      go_wp2_with fail
      go_loopg [14] k (fun r i wr => ∃ j : Nat, j + r = k ∧ i = .int .i64 j ∧ BSt w wr w.heap.size k sl k (fZ (.map (some (w.heap.size + 1)))) (rowK w.heap.size k) (prK w.heap.size j) (ntK w.heap.size k j))
      case atStart =>
        have := k_zero w.heap.size k
        exact ⟨0, by omega, rfl, by rw [← this.1, ← this.2]; exact G⟩
      case round =>
        obtain ⟨j, hj, rfl, G2⟩ := hrel
        clear G
        by_cases hlt : j < k
        · obtain ⟨c0, ⟨x3, c3⟩, ⟨x4, c4⟩, m3, m4⟩ := G2.reads hlt
          have hne : w.heap.size + 3 ≠ w.heap.size + 4 + j := by omega
          rcases j with _ | j
          · by_cases hl : 0 + 1 < k
            · obtain ⟨c1, _⟩ := G2.reads hl
              go_wp2_with fail
              go_region
              go_wp2_with fail
              go_roundg (gk - 1)
              case measure => omega
              case rel =>
                have := (G2.setNext 0 (ptr (w.heap.size + 4 + (0 + 1)))).drew
                rw [ntK_more _ _ 0 hl, prK_first] at this
                exact ⟨0 + 1, by omega, by go_num, this⟩
            · go_wp2_with fail
              go_roundg (gk - 1)
              case measure => omega
              case rel =>
                rw [ntK_last _ _ 0 hl, prK_first] at G2
                exact ⟨0 + 1, by omega, by go_num, G2⟩
          · obtain ⟨cp, _⟩ := G2.reads (k := j) (by omega)
            by_cases hl : j + 1 + 1 < k
            · obtain ⟨c1, _⟩ := G2.reads hl
              go_wp2_with fail
              go_region
              go_wp2_with fail
              go_region
              go_wp2_with fail
              go_roundg (gk - 1)
              case measure => omega
              case rel =>
                have := ((G2.setPrev (j + 1) (ptr (w.heap.size + 4 + j))).setNext (j + 1) (ptr (w.heap.size + 4 + (j + 1 + 1)))).drew.drew
                rw [ntK_more _ _ (j + 1) hl, prK_more] at this
                exact ⟨j + 1 + 1, by omega, by go_num, this⟩
            · go_wp2_with fail
              go_region
              go_wp2_with fail
              go_roundg (gk - 1)
              case measure => omega
              case rel =>
                have := (G2.setPrev (j + 1) (ptr (w.heap.size + 4 + j))).drew
                rw [ntK_last _ _ (j + 1) hl, prK_more] at this
                exact ⟨j + 1 + 1, by omega, by go_num, this⟩
        · obtain rfl : j = k := by omega
          obtain ⟨c0, _⟩ := G2.reads (k := 0) (by omega)
          have c17 := G2.shard.cell (o := 17 + sl) (by omega)
          have m17 := G2.shard.mark (17 + sl)
          have c5 := G2.shard.cell (o := 5) (by omega)
          have m5 := G2.shard.mark 5
          go_wp2_with fail
          go_region
          go_wp2_with fail
          have hL := l3_start n hsl G2
          clear c0 c17 m17 c5 m5 G2
          go_loopg [15] 11 (fun r i wr => ∃ k : Nat, k + r = 11 ∧ i = .int .i64 k ∧ L3 w wr w.heap.size j sl k n)
          case atStart => exact ⟨0, by omega, rfl, hL⟩
          case round =>
            obtain ⟨k, hk, rfl, G3⟩ := hrel
            clear hL
            by_cases hlt : k < 11
            · obtain ⟨⟨x, cx⟩, mx, _⟩ := G3.cell k hlt
              go_wp2_with fail
              go_roundg (gk - 1)
              case measure => omega
              case rel => exact ⟨k + 1, by omega, by go_num, G3.push hlt _⟩
            · obtain rfl : k = 11 := by omega
              go_upto_if 95 with fail
              go_cut [] (fun wx => L3 w wx w.heap.size j sl 11 n)
              case first =>
                by_cases h7 : sl < 704
                · have hq' : sl / 64 < 11 := by omega
                  have hsm : sl % 64 < 64 := by omega
                  obtain ⟨_, mx, hx⟩ := G3.cell (sl / 64) hq'
                  obtain ⟨x, cx⟩ := hx hq'
                  have hd : (sl : Int).tdiv 64 = ((sl / 64 : Nat) : Int) := by rw [Int.tdiv_eq_ediv_of_nonneg (by omega)]; omega
                  have hr : (sl : Int).tmod 64 = ((sl % 64 : Nat) : Int) := by rw [Int.tmod_eq_emod_of_nonneg (by omega)]; omega
                  go_wp2_with fail
                  go_region
                  go_wp2_with fail
                  go_meet
                  exact G3.put (sl / 64) hq' _
                · go_wp2_with fail
                  go_meet
                  exact G3
              case rest =>
              clear G3
              rename L3 _ _ _ _ _ _ _ => G3
              obtain ⟨f, B3, F3⟩ := G3
              obtain ⟨c0, c1, c2, c3, c4, c5, c6, c7, c8, c9, c10⟩ := words_at B3.shard F3
              obtain ⟨r0, r1, r2, r3, r4, r5, r6, r7, r8, r9, r10, m0, m1, m2, m3, m4, m5, m6, m7, m8, m9, m10⟩ := res_at B3.res
              go_wp2_with fail
              go_region
              go_wp2
              have hres := fill11_drew B3.res f
              clear c0 c1 c2 c3 c4 c5 c6 c7 c8 c9 c10 r0 r1 r2 r3 r4 r5 r6 r7 r8 r9 r10 m0 m1 m2 m3 m4 m5 m6 m7 m8 m9 m10
              (try simp only [Exit.inBlock, Exit.then])
              refine bodyPost_ret (w := (fill11 wc w.heap.size f).drew) (results_ttc rfl _ (fill11 wc w.heap.size f).drew w.heap.size 26 _ (0, 0) _ rfl hres Yba.underlying26 rfl info26) rfl ?_
              exact ⟨f, rfl, built_of B3 F3⟩
end Go.Proofs.Ybulkasiu
