/-
  'LawS2191ARemove': the walk. Our own work over the given program.
-/
import Derived.Test.YbulkasiuRest
namespace Go.Proofs.Ybulkasiu
open Go.RowKit
set_option linter.unusedVariables false

theorem wf_u8' {n : Int} (h : (Lit.int .u8 n).wf = true) : 0 ≤ n ∧ n ≤ 255 := by
  simp [Lit.wf, IntKind.min, IntKind.max, IntKind.signed, IntKind.bits] at h
  omega
theorem wf_u16' {n : Int} (h : (Lit.int .u16 n).wf = true) : 0 ≤ n ∧ n ≤ 65535 := by
  simp [Lit.wf, IntKind.min, IntKind.max, IntKind.signed, IntKind.bits] at h
  omega

/-- The list stands, and the copy of the occupancy. -/
def RDef (w0 w : World) (N cnt sl : Nat) (n : Int) : Prop := ∃ f, Ready w0 w N cnt sl n f

/-- An occupancy in a variable of its own. -/
abbrev wordsO (f : Nat → Value) : Obj := .cells #[.int .u64 (gw f 0), .int .u64 (gw f 1), .int .u64 (gw f 2), .int .u64 (gw f 3), .int .u64 (gw f 4), .int .u64 (gw f 5), .int .u64 (gw f 6), .int .u64 (gw f 7), .int .u64 (gw f 8), .int .u64 (gw f 9), .int .u64 (gw f 10)] 26

theorem rdef_of {w0 w : World} {N cnt sl : Nat} {n : Int} {f : Nat → Value} (h : Built w0 w N cnt sl n f) : RDef w0 (w.alloc (wordsO f)) N cnt sl n := by
  have hs := h.size
  have k : ∀ g, g < w.heap.size → (w.alloc (wordsO f)).heap[g]? = w.heap[g]? := fun g hg => Below.heap_alloc _ _ _ hg
  refine ⟨f, h.shard.same (k _ (by omega)), h.row.same (k _ (by omega)), fun i hi => ?_, ?_, ?_, h.below.alloc (by omega) _, h.fst⟩
  · have := (h.tim i hi).same (k _ (by omega))
    simpa only [prK, ntK, if_pos hi] using this
  · rw [← hs]
    exact (MapKept.heap_alloc w _).1
  · simp [hs]

theorem words_in {w : World} {T : Nat} {f : Nat → Value} (h : w.heap[T]? = some (wordsO f)) :
    w.cell? ⟨T, 0, none⟩ = some (.int .u64 (gw f 0)) ∧ w.cell? ⟨T, 1, none⟩ = some (.int .u64 (gw f 1)) ∧ w.cell? ⟨T, 2, none⟩ = some (.int .u64 (gw f 2)) ∧ w.cell? ⟨T, 3, none⟩ = some (.int .u64 (gw f 3)) ∧ w.cell? ⟨T, 4, none⟩ = some (.int .u64 (gw f 4)) ∧ w.cell? ⟨T, 5, none⟩ = some (.int .u64 (gw f 5)) ∧ w.cell? ⟨T, 6, none⟩ = some (.int .u64 (gw f 6)) ∧ w.cell? ⟨T, 7, none⟩ = some (.int .u64 (gw f 7)) ∧ w.cell? ⟨T, 8, none⟩ = some (.int .u64 (gw f 8)) ∧ w.cell? ⟨T, 9, none⟩ = some (.int .u64 (gw f 9)) ∧ w.cell? ⟨T, 10, none⟩ = some (.int .u64 (gw f 10)) := by
  simp [World.cell?, h]

theorem word_in {w : World} {T : Nat} {f : Nat → Value} (h : w.heap[T]? = some (wordsO f)) (l : Nat) (hl : l < 11) : w.cell? ⟨T, l, none⟩ = some (.int .u64 (gw f l)) ∧ w.frozen? ⟨T, l, none⟩ = false := by
  obtain ⟨h0, h1, h2, h3, h4, h5, h6, h7, h8, h9, h10⟩ := words_in h
  refine ⟨?_, by simp [World.frozen?, h]⟩
  rcases l with _ | _ | _ | _ | _ | _ | _ | _ | _ | _ | _ | l
  all_goals first | omega | assumption

/-- The law's own copy of the occupancy. -/
structure Copy (w0 w : World) (N cnt sl idx E : Nat) (n : Int) (f g : Nat → Value) : Prop where
  gone : Gone w0 w N cnt sl idx n f g
  cells : w.heap[E]? = some (wordsO f)
  new : N + 4 + cnt + 1 ≤ E

theorem copy_of {w0 w : World} {N cnt sl idx : Nat} {n : Int} {f g : Nat → Value} (h : Gone w0 w N cnt sl idx n f g) (hi : idx < cnt) : Copy w0 (w.alloc (wordsO f)) N cnt sl idx w.heap.size n f g := by
  have hs := h.size
  exact ⟨h.kept hi (fun b hb => Below.heap_alloc _ _ _ (by omega)) (by simp) (h.below.alloc (by omega) _), (MapKept.heap_alloc w _).1, hs⟩

/-- The copy turned as the shard's occupancy is. -/
structure Met (w0 w : World) (N cnt sl idx E : Nat) (n : Int) (f g : Nat → Value) : Prop where
  gone : Gone w0 w N cnt sl idx n f g
  cells : ∀ l, l < 11 → w.cell? ⟨E, l, none⟩ = some (.int .u64 (gw g l))

theorem Gone.word {w0 w : World} {N cnt sl idx : Nat} {n : Int} {f g : Nat → Value} (h : Gone w0 w N cnt sl idx n f g) {l : Nat} (hl : l < 11) : gw g l = (if (cnt = 1 ∧ sl < 704) ∧ l = sl / 64 then clr (gw f l) sl else gw f l) ∧ g (6 + l) = .int .u64 (gw g l) := by
  have := h.occ l hl
  have e : gw g l = (if (cnt = 1 ∧ sl < 704) ∧ l = sl / 64 then clr (gw f l) sl else gw f l) := by
    conv => lhs; unfold gw
    rw [this]
  exact ⟨e, by rw [e]; exact this⟩

theorem met_not {w0 w : World} {N cnt sl idx E : Nat} {n : Int} {f g : Nat → Value} (h : Copy w0 w N cnt sl idx E n f g) (hc : ¬ (cnt = 1 ∧ sl < 704)) : Met w0 w N cnt sl idx E n f g := by
  refine ⟨h.gone, fun l hl => ?_⟩
  rw [(h.gone.word hl).1, if_neg (fun e => hc e.1)]
  exact (word_in h.cells l hl).1

theorem met_one {w0 w : World} {N cnt sl idx E : Nat} {n : Int} {f g : Nat → Value} (h : Copy w0 w N cnt sl idx E n f g) (hi : idx < cnt) (hc : cnt = 1 ∧ sl < 704) : Met w0 (w.setCell ⟨E, sl / 64, none⟩ (.int .u64 (clr (gw f (sl / 64)) sl))) N cnt sl idx E n f g := by
  have hE := h.new
  refine ⟨h.gone.kept hi (fun b hb => set_other _ _ _ _ (by show b ≠ E; omega)) (by simp) (h.gone.below.setCell (by show N ≤ E; omega) _), fun l hl => ?_⟩
  rw [(h.gone.word hl).1]
  have hb : (w.setCell ⟨E, sl / 64, none⟩ (.int .u64 (clr (gw f (sl / 64)) sl))).heap[E]? = some (.cells (#[.int .u64 (gw f 0), .int .u64 (gw f 1), .int .u64 (gw f 2), .int .u64 (gw f 3), .int .u64 (gw f 4), .int .u64 (gw f 5), .int .u64 (gw f 6), .int .u64 (gw f 7), .int .u64 (gw f 8), .int .u64 (gw f 9), .int .u64 (gw f 10)].setIfInBounds (sl / 64) (.int .u64 (clr (gw f (sl / 64)) sl))) 26 (0, 0)) := by
    simp only [World.setCell, Array.getElem?_modify, h.cells]
    simp
  have h1 := (word_in h.cells l hl).1
  by_cases e : l = sl / 64
  · subst e
    rw [if_pos ⟨hc, rfl⟩]
    simp [World.cell?, hb, hl]
  · rw [if_neg (fun x => e x.2), ← h1]
    simp only [World.cell?, hb, h.cells, Array.getElem?_setIfInBounds_ne (Ne.symm e)]

theorem words_gone {w0 w : World} {N cnt sl idx : Nat} {n : Int} {f g : Nat → Value} (h : Gone w0 w N cnt sl idx n f g) :
    w.cell? ⟨N + 2, 6, none⟩ = some (.int .u64 (gw g 0)) ∧ w.cell? ⟨N + 2, 7, none⟩ = some (.int .u64 (gw g 1)) ∧ w.cell? ⟨N + 2, 8, none⟩ = some (.int .u64 (gw g 2)) ∧ w.cell? ⟨N + 2, 9, none⟩ = some (.int .u64 (gw g 3)) ∧ w.cell? ⟨N + 2, 10, none⟩ = some (.int .u64 (gw g 4)) ∧ w.cell? ⟨N + 2, 11, none⟩ = some (.int .u64 (gw g 5)) ∧ w.cell? ⟨N + 2, 12, none⟩ = some (.int .u64 (gw g 6)) ∧ w.cell? ⟨N + 2, 13, none⟩ = some (.int .u64 (gw g 7)) ∧ w.cell? ⟨N + 2, 14, none⟩ = some (.int .u64 (gw g 8)) ∧ w.cell? ⟨N + 2, 15, none⟩ = some (.int .u64 (gw g 9)) ∧ w.cell? ⟨N + 2, 16, none⟩ = some (.int .u64 (gw g 10)) := by
  have k : ∀ l, l < 11 → w.cell? ⟨N + 2, 6 + l, none⟩ = some (.int .u64 (gw g l)) := fun l hl => by rw [h.lst.shard.cell (by omega), (h.word hl).2]
  exact ⟨k 0 (by omega), k 1 (by omega), k 2 (by omega), k 3 (by omega), k 4 (by omega), k 5 (by omega), k 6 (by omega), k 7 (by omega), k 8 (by omega), k 9 (by omega), k 10 (by omega)⟩

theorem eleven {w : World} {E : Nat} {g : Nat → Value} (k : ∀ l, l < 11 → w.cell? ⟨E, l, none⟩ = some (.int .u64 (gw g l))) :
    w.cell? ⟨E, 0, none⟩ = some (.int .u64 (gw g 0)) ∧ w.cell? ⟨E, 1, none⟩ = some (.int .u64 (gw g 1)) ∧ w.cell? ⟨E, 2, none⟩ = some (.int .u64 (gw g 2)) ∧ w.cell? ⟨E, 3, none⟩ = some (.int .u64 (gw g 3)) ∧ w.cell? ⟨E, 4, none⟩ = some (.int .u64 (gw g 4)) ∧ w.cell? ⟨E, 5, none⟩ = some (.int .u64 (gw g 5)) ∧ w.cell? ⟨E, 6, none⟩ = some (.int .u64 (gw g 6)) ∧ w.cell? ⟨E, 7, none⟩ = some (.int .u64 (gw g 7)) ∧ w.cell? ⟨E, 8, none⟩ = some (.int .u64 (gw g 8)) ∧ w.cell? ⟨E, 9, none⟩ = some (.int .u64 (gw g 9)) ∧ w.cell? ⟨E, 10, none⟩ = some (.int .u64 (gw g 10)) :=
  ⟨k 0 (by omega), k 1 (by omega), k 2 (by omega), k 3 (by omega), k 4 (by omega), k 5 (by omega), k 6 (by omega), k 7 (by omega), k 8 (by omega), k 9 (by omega), k 10 (by omega)⟩

theorem below_many {w0 w : World} {N : Nat} (h : Below N w0 w) (n : Nat) : Below N w0 (w.drewN n) := ⟨h.os, h.tape, h.output, h.size, h.block⟩

set_option maxRecDepth 100000 in
set_option maxHeartbeats 1000000 in
theorem walkR (s k j : Nat) (n other : Int) (hs : s ≤ 65535) (hk : k ≤ 255) (hj : j ≤ 255) (w : World) :
    Calls Yba.prog 3 #[.int .u16 s, .int .u8 k, .int .u8 j, .int .i64 n, .int .u64 other] w fun e w' => e = .returned (.bool true) ∧ Below w.heap.size w w' := by
  obtain ⟨cnt, hcnt⟩ : ∃ cnt : Nat, cnt = k % 8 + 1 := ⟨_, rfl⟩
  obtain ⟨sl, hsl⟩ : ∃ sl : Nat, sl = s % 706 := ⟨_, rfl⟩
  obtain ⟨idx, hidx⟩ : ∃ idx : Nat, idx = j % cnt := ⟨_, rfl⟩
  have hc1 : 1 ≤ cnt := by omega
  have hc8 : cnt ≤ 8 := by omega
  have hs6 : sl < 706 := by omega
  have hi : idx < cnt := by rw [hidx]; exact Nat.mod_lt _ (by omega)
  have E1 : Hid (((k : Int) % 8 + 1 = (cnt : Int)) ∧ ((k : Int).tmod 8 + 1 = (cnt : Int))) := ⟨by omega, by rw [Int.tmod_eq_emod_of_nonneg (by omega)]; omega⟩
  have E2 : Hid (((s : Int) % 706 = (sl : Int)) ∧ ((s : Int).tmod 706 = (sl : Int))) := ⟨by omega, by rw [Int.tmod_eq_emod_of_nonneg (by omega)]; omega⟩
  have E3 : Hid (((j : Int) % (cnt : Int) = (idx : Int)) ∧ ((j : Int).tmod (cnt : Int) = (idx : Int))) := ⟨by rw [hidx]; rfl, by rw [Int.tmod_eq_emod_of_nonneg (by omega), hidx]; rfl⟩
  clear hcnt hsl hidx
  go_enter Yba.func3, Yba.ntmps3
  go_upto_region 1 with fail
  go_cut [11] (fun s11 wx => s11 = .int .i64 cnt ∧ w = wx)
  case first =>
    go_wp2
    go_meet
    exact ⟨by rw [E1.out.1], rfl⟩
  case rest =>
  obtain ⟨rfl, rfl⟩ := hcut
  go_upto_region 2 with fail
  go_cut [12] (fun s12 wx => s12 = .int .i64 sl ∧ w = wx)
  case first =>
    go_wp2
    go_meet
    exact ⟨by rw [E2.out.1], rfl⟩
  case rest =>
  obtain ⟨rfl, rfl⟩ := hcut
  go_upto_region 3 with fail
  go_cut [13] (fun s13 wx => s13 = .int .i64 idx ∧ w = wx)
  case first =>
    go_wp2
    go_meet
    exact ⟨by rw [E3.out.1], rfl⟩
  case rest =>
  obtain ⟨rfl, rfl⟩ := hcut
  clear E1 E2 E3
  go_upto_region 4 with fail
  go_cut [14, 15, 16] (fun s14 s15 s16 wx => s14 = ptr (w.heap.size + 2) ∧ s15 = .slice (some ⟨w.heap.size + 3, 0, none⟩) cnt cnt ∧ s16 = ptr (w.heap.size + 4 + cnt) ∧ RDef w wx w.heap.size cnt sl n)
  case first =>
    go_wp2_with fail
    refine Calls.mono (build_any sl cnt n other w hs6 hc1 hc8) ?_
    rintro e w1 ⟨f, rfl, B⟩
    have hsz := B.size
    go_wp2
    go_meet
    exact ⟨rfl, rfl, rfl, rdef_of B⟩
  case rest =>
  obtain ⟨rfl, rfl, rfl, f, R⟩ := hcut
  have cI : wc.cell? ⟨w.heap.size + 3, idx, none⟩ = some (ptr (w.heap.size + 4 + idx)) := by
    rw [R.row.cell hi]
    simp [rowK, hi]
  have HU : Hid (Calls Yba.prog 7 #[ptr (w.heap.size + 2), ptr (w.heap.size + 4 + idx)] wc fun e w' => e = .returned (.bool true) ∧ Gone w w' w.heap.size cnt sl idx n f (fun i => if i = 5 then .int .i64 (wrap64 (n - 1)) else fU f w.heap.size cnt sl idx i)) := unplace_any R hs6 hi
  clear R
  go_wp2_with fail
  refine Calls.mono HU.out ?_
  generalize (fun i => if i = 5 then Value.int .i64 (wrap64 (n - 1)) else fU f w.heap.size cnt sl idx i) = g
  rintro e w2 ⟨rfl, G⟩
  have c5 : w2.cell? ⟨w.heap.size + 2, 5, none⟩ = some (.int .i64 (wrap64 (n - 1))) := (G.lst.shard.cell (by omega)).trans (congrArg some G.num)
  obtain ⟨t3, t4, t5, _⟩ := G.gone.cells
  go_upto_region 14 with fail
  clear t3 t4 t5 c5 cI HU
  obtain ⟨i0, hi0, hz0, hz1, hz2⟩ := info_parts info29
  obtain ⟨M, hM⟩ : ∃ M, M = w2.heap.size := ⟨_, rfl⟩
  have HM : Hid (M = w2.heap.size) := hM
  have HG : Hid (Gone w w2 w.heap.size cnt sl idx n f g) := G
  clear hM G
  go_cut [19] (fun s19 wx => s19 = .slice (some ⟨M, 0, none⟩) 0 cnt ∧ Gath w wx w.heap.size cnt sl idx M 0 n f g)
  case first =>
    go_wp2_with (refine wpList_make_own _ rfl (.const (.int .i64 0)) (.tmp 79) 25 rfl w2.heap.size 29 i0 (.pointer none) 1 Yba.underlying25 hi0 hz0 hz1 .i64 .i64 _ cnt rfl rfl rfl (by rw [hz2]; omega) (by unfold maxLen; omega) (Nat.le_refl _) ?_; intro w3 ho3 hg3)
    go_meet
    have := gath_start HG.out hi ho3 hg3
    rw [HM.out]
    exact ⟨rfl, this⟩
  case rest =>
  obtain ⟨rfl, GA⟩ := hcut
  clear HG HM
  go_wp2_with fail
  go_loopg [19, 20] cnt (fun r v i wr => ∃ q : Nat, q + r = cnt ∧ i = .int .i64 q ∧ v = .slice (some ⟨M, 0, none⟩) (rk idx q) cnt ∧ Gath w wr w.heap.size cnt sl idx M q n f g)
  case atStart => exact ⟨0, by omega, rfl, by simp [rk], GA⟩
  case round =>
    obtain ⟨q, hq, rfl, rfl, G⟩ := hrel
    clear GA
    by_cases hlt : q < cnt
    · by_cases he : q = idx
      · subst he
        go_wp2_with fail
        go_roundg (gk - 1)
        case measure => omega
        case rel => exact ⟨q + 1, by omega, by go_num, by rw [rk_skip], G.skip⟩
      · have cQ : wr.cell? ⟨w.heap.size + 3, q, none⟩ = some (ptr (w.heap.size + 4 + q)) := by
          rw [G.gone.row.cell hlt]
          simp [rowK, hlt]
        have HO : Hid (wr.ownsRow M 29 1 (.slice (some ⟨M, 0, none⟩) (rk idx q) cnt) (rk idx q) (rl w.heap.size idx (rk idx q))) := G.own
        have HL : Hid (rk idx q + 1 ≤ cnt) := rk_lt (idx := idx) hlt
        have HG : Hid (Gath w wr w.heap.size cnt sl idx M q n f g) := G
        clear G
        go_wp2_with (at_builtin; refine wpList_append_fits _ rfl (.tmp 89) (.tmp 94) 25 rfl M 29 i0 1 Yba.underlying25 hi0 hz1 M (rk idx q) cnt _ rfl (HO.out.alloc _) ⟨wr.heap.size, 0, none⟩ 1 1 [ptr (w.heap.size + 4 + q)] rfl rfl (cell_one_new _ _ _) (by simp [Value.oneCell']) HL.out ?_; intro w4 ho4 hg4)
        go_roundg (gk - 1)
        case measure => omega
        case rel => exact ⟨q + 1, by omega, by go_num, by rw [rk_succ _ _ he], HG.out.push hi he ho4 hg4⟩
    · obtain rfl : q = cnt := by omega
      have HA := Hid.out (p := Hid _) (alist_any (w.heap.size + 2) sl (rk idx q) M q (some ⟨M, 0, none⟩) (qq w.heap.size idx) g wr hs6 (by rw [rk_last hi]; omega) (by rw [rk_last hi]; exact G.gone.lst) (fun _ => rfl) G.cells)
      have GG := G.gone
      clear G
      go_wp2_with fail
      refine Calls.mono HA.out ?_
      rintro e w5 ⟨rfl, rfl⟩
      clear HA
      obtain ⟨E, hE⟩ : ∃ E, E = w5.heap.size := ⟨_, rfl⟩
      have HE : Hid (E = w5.heap.size) := hE
      have HG : Hid (Gone w w5 w.heap.size q sl idx n f g) := GG
      obtain ⟨d0, d1, d2, d3, d4, d5, d6, d7, d8, d9, d10⟩ := words_in GG.dup
      clear hE GG
      go_upto_region 22 with fail
      go_cut [21] (fun s21 wx => s21 = ptr E ∧ Copy w wx w.heap.size q sl idx E n f g)
      case first =>
        go_wp2
        go_meet
        rw [HE.out]
        exact ⟨rfl, copy_of HG.out hi⟩
      case rest =>
      obtain ⟨rfl, GC⟩ := hcut
      clear HE HG d0 d1 d2 d3 d4 d5 d6 d7 d8 d9 d10
      go_upto_region 23 with fail
      go_cut [107] (fun s107 wx => s107 = .bool (decide (q = 1 ∧ sl < 704)) ∧ Copy w wx w.heap.size q sl idx E n f g)
      case first =>
        by_cases h1 : q = 1
        · subst h1
          by_cases h7 : sl < 704
          · go_wp2
            go_meet
            exact ⟨by simp [h7]; omega, GC⟩
          · go_wp2
            go_meet
            exact ⟨by simp [h7]; omega, GC⟩
        · go_wp2
          go_meet
          exact ⟨by simp [h1], GC⟩
      case rest =>
      obtain ⟨rfl, GC2⟩ := hcut
      clear GC
      go_upto_if 107 with fail
      go_cut [] (fun wx => Met w wx w.heap.size q sl idx E n f g)
      case first =>
        by_cases h17 : q = 1 ∧ sl < 704
        · have hq' : sl / 64 < 11 := by omega
          have hsm : sl % 64 < 64 := by omega
          have hd : (sl : Int).tdiv 64 = ((sl / 64 : Nat) : Int) := by rw [Int.tdiv_eq_ediv_of_nonneg (by omega)]; omega
          have hr : (sl : Int).tmod 64 = ((sl % 64 : Nat) : Int) := by rw [Int.tmod_eq_emod_of_nonneg (by omega)]; omega
          obtain ⟨cx, mx⟩ := word_in GC2.cells (sl / 64) hq'
          have H17 : Hid (q = 1 ∧ sl < 704) := h17
          rw [decide_eq_true h17]
          obtain ⟨_, h7⟩ := h17
          go_wp2_with fail
          go_meet
          exact met_one GC2 hi H17.out
        · have H17 : Hid (¬ (q = 1 ∧ sl < 704)) := h17
          rw [decide_eq_false h17]
          clear h17
          go_wp2
          go_meet
          exact met_not GC2 H17.out
      case rest =>
      clear GC2
      rename Met _ _ _ _ _ _ _ _ _ _ => GM
      obtain ⟨s0, s1, s2, s3, s4, s5, s6, s7, s8, s9, s10⟩ := words_gone GM.gone
      obtain ⟨e0, e1, e2, e3, e4, e5, e6, e7, e8, e9, e10⟩ := eleven GM.cells
      have c4 : wc.cell? ⟨w.heap.size + 2, 4, none⟩ = some (.int .u64 0) := (GM.gone.lst.shard.cell (by omega)).trans (congrArg some GM.gone.cur)
      have HB : Hid (Below w.heap.size w wc) := GM.gone.below
      have heq := eql26 g
      clear GM
      go_upto_region 25 with fail
      go_quiet (fail)
      go_wp2
      go_ret
      exact ⟨rfl, below_many HB.out _⟩

/-- The walk, in the row's own words. -/
theorem walkA (a0 a1 a2 a3 a4 : Int) (w0 : (Lit.int .u16 a0).wf = true) (w1 : (Lit.int .u8 a1).wf = true) (w2 : (Lit.int .u8 a2).wf = true) (w : World) :
    Calls Yba.prog 3 #[.int .u16 a0, .int .u8 a1, .int .u8 a2, .int .i64 a3, .int .u64 a4] w fun e w' => e = .returned (.bool true) ∧ Below w.heap.size w w' := by
  obtain ⟨l0, l1⟩ := wf_u16' w0
  obtain ⟨l2, l3⟩ := wf_u8' w1
  obtain ⟨l4, l5⟩ := wf_u8' w2
  obtain ⟨s, rfl⟩ : ∃ s : Nat, a0 = s := ⟨a0.toNat, by omega⟩
  obtain ⟨k, rfl⟩ : ∃ k : Nat, a1 = k := ⟨a1.toNat, by omega⟩
  obtain ⟨j, rfl⟩ : ∃ j : Nat, a2 = j := ⟨a2.toNat, by omega⟩
  exact walkR s k j a3 a4 (by omega) (by omega) (by omega) w
end Go.Proofs.Ybulkasiu
