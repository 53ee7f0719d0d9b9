/-
  'LawS2186CScript': 'start'. Our own work over the given program.
-/
import Derived.Test.YbulkasgcFmtSorted
namespace Go.Proofs.YbulkasgcFmt
open Go.RowKit Go.WideMaps Go.Maps

theorem StrSlice.setT {w : World} {oa : Option Addr} {on oc T : Nat} {cs : Array Value} (h : StrSlice w oa on oc) (hT : w.heap[T]? = some (.cells cs 31 (0, 0))) (i : Nat) (u : Value) : StrSlice (w.setCell ⟨T, i, none⟩ u) oa on oc := by
  obtain ⟨B, l, ho, h2⟩ := h
  refine ⟨B, l, ownsRow_setCell_other ho (fun e => ?_) _, h2⟩
  obtain ⟨_, ⟨hv, _⟩ | ⟨g, cp, cur, hv, hBg, hh, _⟩⟩ := ho
  · rw [hv] at e; cases e
  · rw [hv] at e
    simp [Value.ownBlock] at e
    rw [e, hT] at hh
    cases hh

theorem StrSlice.kept {w w' : World} {oa : Option Addr} {on oc : Nat} (h : StrSlice w oa on oc) (hb : Below w.heap.size w w') : StrSlice w' oa on oc := by
  obtain ⟨B, l, ho, h2⟩ := h
  exact ⟨B, l, ho.kept (grown_of_below hb) (by cases (Value.slice oa on oc).ownBlock <;> simp), h2⟩

theorem StrSlice.at_ {w : World} {oa : Option Addr} {on oc : Nat} (h : StrSlice w oa on oc) {k : Nat} (hk : k < on) : ∃ (g : Nat) (s : ByteArray), oa = some ⟨g, 0, none⟩ ∧ w.cell? ⟨g, k, none⟩ = some (.string s) ∧ s.size ≤ maxLen := by
  obtain ⟨B, l, ⟨_, ⟨hv, hn0⟩ | ⟨g, cp, cur, hv, hBg, hh, hcp, hcm, hcs, htk⟩⟩, hl, hs, hle⟩ := h
  · omega
  · cases hv
    have hkl : k < l.length := by omega
    refine ⟨g, l[k], rfl, ?_, hs _ (List.getElem_mem hkl)⟩
    have : (l.map Value.string)[k]? = some (.string l[k]) := by simp [hkl]
    rw [← htk, List.getElem?_take_of_lt (by omega), Array.getElem?_toList] at this
    simp only [World.cell?, hh]
    simpa using this

theorem StrSlice.own {w : World} {oa : Option Addr} {on oc : Nat} (h : StrSlice w oa on oc) (r : SRec) (h1 : r.oa = oa) (h2 : r.on = on) : RecOwn w r := by
  intro ho
  obtain ⟨B, l, ⟨_, ⟨hv, hn0⟩ | ⟨g, cp, cur, hv, hBg, hh, hcp, hcm, hcs, htk⟩⟩, hl, hs, hle⟩ := h
  · omega
  · cases hv
    refine ⟨g, cur, l, h1, hh, by omega, fun j u hj => ?_⟩
    have hjl : j < on := by
      have := (List.getElem?_eq_some_iff.1 hj).1
      simp at this
      omega
    rw [← htk, List.getElem?_take_of_lt (by omega), Array.getElem?_toList] at hj
    exact hj

theorem heap_drewN (w : World) : ∀ m, (w.drewN m).heap = w.heap
  | 0 => rfl
  | m + 1 => heap_drewN w m

theorem below_drewN (N : Nat) (w : World) : ∀ m, Below N w (w.drewN m)
  | 0 => Below.refl _ _
  | m + 1 => (below_drewN N w m).drew

/-- The record that is being made, in block T. -/
abbrev TB (node : ByteArray) (now : Int) (oa : Option Addr) (on oc : Nat) (stp : ByteArray) (sat : Int) (sb : Bool) : Obj := .cells #[.string node, .int .i64 now, .slice oa on oc, .string stp, .int .i64 sat, .bool sb] 31

/-- What is known in the loop of 'start'. -/
structure Mid (w2 wr : World) (node : ByteArray) (now : Int) (oa : Option Addr) (on oc : Nat) (stp : ByteArray) (sat : Int) (sb : Bool) : Prop where
  hT : wr.heap[w2.heap.size]? = some (TB node now oa on oc stp sat sb)
  s0 : 0 ≤ sat
  s1 : sat ≤ now
  len : stp.size ≤ maxLen
  bel : Below w2.heap.size w2 wr
  own : StrSlice wr oa on oc

theorem Mid.cells {w2 wr : World} {node : ByteArray} {now : Int} {oa : Option Addr} {on oc : Nat} {stp : ByteArray} {sat : Int} {sb : Bool} (h : Mid w2 wr node now oa on oc stp sat sb) :
    wr.cell? ⟨w2.heap.size, 0, none⟩ = some (.string node) ∧ wr.cell? ⟨w2.heap.size, 1, none⟩ = some (.int .i64 now) ∧ wr.cell? ⟨w2.heap.size, 2, none⟩ = some (.slice oa on oc) ∧ wr.cell? ⟨w2.heap.size, 3, none⟩ = some (.string stp) ∧ wr.cell? ⟨w2.heap.size, 4, none⟩ = some (.int .i64 sat) ∧ wr.cell? ⟨w2.heap.size, 5, none⟩ = some (.bool sb) ∧
    wr.frozen? ⟨w2.heap.size, 3, none⟩ = false ∧ wr.frozen? ⟨w2.heap.size, 4, none⟩ = false ∧ wr.frozen? ⟨w2.heap.size, 5, none⟩ = false := by
  have := h.hT
  simp [World.cell?, World.frozen?, this]

theorem Mid.kept {w2 wr wx : World} {node : ByteArray} {now : Int} {oa : Option Addr} {on oc : Nat} {stp : ByteArray} {sat : Int} {sb : Bool} (h : Mid w2 wr node now oa on oc stp sat sb) (hb : Below wr.heap.size wr wx) : Mid w2 wx node now oa on oc stp sat sb :=
  ⟨(hb.block _ (lt_of_block h.hT)).trans h.hT, h.s0, h.s1, h.len, h.bel.trans (hb.mono h.bel.size), h.own.kept hb⟩

theorem Mid.set34 {w2 wr : World} {node : ByteArray} {now : Int} {oa : Option Addr} {on oc : Nat} {stp stp' : ByteArray} {sat sat' : Int} {sb : Bool} (h : Mid w2 wr node now oa on oc stp sat sb) (h0 : 0 ≤ sat') (h1 : sat' ≤ now) (hl : stp'.size ≤ maxLen) :
    Mid w2 ((wr.setCell ⟨w2.heap.size, 3, none⟩ (.string stp')).setCell ⟨w2.heap.size, 4, none⟩ (.int .i64 sat')) node now oa on oc stp' sat' sb := by
  have e1 : (wr.setCell ⟨w2.heap.size, 3, none⟩ (.string stp')).heap[w2.heap.size]? = some (TB node now oa on oc stp' sat sb) := by
    simp only [World.setCell, Array.getElem?_modify, h.hT]
    simp
  refine ⟨?_, h0, h1, hl, (h.bel.setCell (Nat.le_refl _) _).setCell (Nat.le_refl _) _, (h.own.setT h.hT 3 _).setT e1 4 _⟩
  simp only [World.setCell, Array.getElem?_modify, h.hT]
  simp

theorem sset34 {wr : World} {oa : Option Addr} {on oc T : Nat} {a0 a1 a2 a3 a4 a5 u3 u4 : Value} (h : StrSlice wr oa on oc) (hT : wr.heap[T]? = some (.cells #[a0, a1, a2, a3, a4, a5] 31 (0, 0))) : StrSlice ((wr.setCell ⟨T, 3, none⟩ u3).setCell ⟨T, 4, none⟩ u4) oa on oc := by
  have e1 : (wr.setCell ⟨T, 3, none⟩ u3).heap[T]? = some (.cells #[a0, a1, a2, u3, a4, a5] 31 (0, 0)) := by
    simp only [World.setCell, Array.getElem?_modify, hT]
    simp
  exact (h.setT hT 3 _).setT e1 4 _

theorem Mid.set5 {w2 wr : World} {node : ByteArray} {now : Int} {oa : Option Addr} {on oc : Nat} {stp : ByteArray} {sat : Int} {sb sb' : Bool} (h : Mid w2 wr node now oa on oc stp sat sb) : Mid w2 (wr.setCell ⟨w2.heap.size, 5, none⟩ (.bool sb')) node now oa on oc stp sat sb' := by
  refine ⟨?_, h.s0, h.s1, h.len, h.bel.setCell (Nat.le_refl _) _, h.own.setT h.hT 5 _⟩
  simp only [World.setCell, Array.getElem?_modify, h.hT]
  simp

theorem ownsMap_drewN {H : Type} {P : Program} {k : TypeId} {R : Value → Option (DataW H × List MemPlace)} {w : World} {b n : Nat} {D : DataW H} (h : w.ownsMap P k R b n D) : ∀ m, (w.drewN m).ownsMap P k R b n D
  | 0 => h
  | m + 1 => (ownsMap_drewN h m).drew

theorem look_ok1 {w : World} {b m : Nat} {D : DataW Unit} {s : ByteArray} (h : MD w b m D) (hs : s.size ≤ maxLen) : ∃ c : Int, D.atKey (kl s) (.lit (.int .i64 0)) = .lit (.int .i64 c) ∧ (Instr.lookup 34 (.map (some b)) (.string s) true).run Ybaf.prog w = .ok (.tuple #[.int .i64 c, .bool (Maps.has D (kl s))]) w := by
  obtain ⟨v, ps, hrun, hv⟩ := h.look_ok law9 Ybaf.underlying34 (zero28 _) (plainElem_int Ybaf.underlying28 (by decide)) (key9 hs)
  obtain ⟨c, rfl, hc, _⟩ := plainElem_int_inv Ybaf.underlying28 hv
  exact ⟨c, (Prod.mk.inj hc).1, hrun⟩

set_option maxRecDepth 100000 in
theorem look_okN {w : World} {b m : Nat} {D : DataW Unit} {s : ByteArray} (h : MD w b m D) (hs : s.size ≤ maxLen) : ∃ (c : Int) (hb : Bool), ∀ n, (Instr.lookup 34 (.map (some b)) (.string s) true).run Ybaf.prog (w.drewN n) = .ok (.tuple #[.int .i64 c, .bool hb]) (w.drewN n) := by
  obtain ⟨c, hc, _⟩ := look_ok1 h hs
  refine ⟨c, Maps.has D (kl s), fun n => ?_⟩
  obtain ⟨c', hc', hrun⟩ := look_ok1 (ownsMap_drewN h n) hs
  have e := hc'.symm.trans hc
  injection e with e
  injection e with _ e
  subst e
  exact hrun

/-- The receiver's block behind the append. -/
theorem s_afterS {N : Nat} {w0 w w1 : World} {k : Nat} {v : Value} {rs : Nat → SRec} {o : Obj} (h : SBase N w0 w k v rs) (hg : (w.alloc o).drew.grownBy w1 v.ownBlock) : w1.heap[N + 5]? = some (.cells #[.map (some N), .map (some (N + 1)), .map (some (N + 2)), .map (some (N + 3)), .map (some (N + 4)), v] 36 (0, 0)) := by
  have hSl := lt_of_block h.hS
  refine (hg.block (N + 5) (by simp; omega) (fun e => ?_)).trans ((Below.heap_alloc _ _ _ hSl).trans h.hS)
  obtain ⟨_, ⟨hv, _⟩ | ⟨g, cp, cur, hv, hBg, hh, _⟩⟩ := h.row
  · rw [hv] at e; cases e
  · rw [hv] at e
    simp [Value.ownBlock] at e
    rw [← e, h.hS] at hh
    cases hh

/-- A start more. -/
theorem SInv.push {N : Nat} {w0 w w1 : World} {m k : Nat} {now : Int} {v v' : Value} {rs : Nat → SRec} {r : SRec} {o : Obj} (h : SInv N w0 w m now k v rs) (h2 : r.late 0 = false) (h3 : r.Num) (h4 : RecOwn w r)
    (ho1 : w1.ownsRow N 31 6 v' (k + 1) (flat rs k ++ r.cells)) (hg : (w.alloc o).drew.grownBy w1 v.ownBlock) : ∃ rs', SInv N w0 (w1.setCell ⟨N + 5, 5, none⟩ v') m now (k + 1) v' rs' := by
  have hb : Below w.heap.size w (w.alloc o).drew := ((Below.refl _ w).alloc (Nat.le_refl _) _).drew
  have hW := h.kept hb
  have hS1 := s_afterS h.base hg
  have G : CInv N (N + 5) w0 (w.alloc o).drew (fun j => if j = k then r else rs j) 0 k v := ⟨⟨rs, hW.base.row, fun j hj => by
    dsimp only
    rw [if_neg (by omega)]
    exact ⟨rfl, rfl, (hW.base.recs j hj).2⟩⟩, ⟨_, _, _, _, _, hW.base.hS⟩, hW.base.bel, by omega⟩
  have P := CInv.push G (rs := rs) (r := r) hW.base.row (fun j hj => by
    rw [if_neg (by omega)]
    exact ⟨rfl, rfl, (hW.base.recs j hj).2⟩) (by simp) (by simp) h3 (h4.kept (keep9_below hb)) ho1 hg
  obtain ⟨⟨rs', ho', hr'⟩, _, hB', _⟩ := P
  have hne : ∀ {R : Value → Option (DataW Unit × List MemPlace)} {b n : Nat} {D : DataW Unit}, (w.alloc o).drew.ownsMap Ybaf.prog 9 R b n D → some b ≠ v.ownBlock := by
    intro R b n D hD e
    obtain ⟨es, c, hmb⟩ := map_block hD
    obtain ⟨_, ⟨hv, _⟩ | ⟨g, cp, cur, hv, hBg, hh, _⟩⟩ := hW.base.row
    · rw [hv] at e; cases e
    · rw [hv] at e
      simp [Value.ownBlock] at e
      rw [← e, hmb] at hh
      cases hh
  obtain ⟨D0, h0⟩ := hW.m0
  obtain ⟨D1, h1⟩ := hW.m1
  obtain ⟨D2, h2'⟩ := hW.m2
  obtain ⟨D3, h3', h3w⟩ := hW.m3
  obtain ⟨D4, h4'⟩ := hW.m4
  refine ⟨rs', ⟨⟨?_, ho', fun j hj => ?_, hB'⟩, ⟨D0, (h0.kept hg (hne h0)).setCell (by simp) _⟩, ⟨D1, (h1.kept hg (hne h1)).setCell (by simp) _⟩, ⟨D2, (h2'.kept hg (hne h2')).setCell (by simp) _⟩, ⟨D3, (h3'.kept hg (hne h3')).setCell (by simp) _, h3w⟩, ⟨D4, (h4'.kept hg (hne h4')).setCell (by simp) _⟩⟩⟩
  · simp only [World.setCell, Array.getElem?_modify, hS1]
    simp
  · obtain ⟨_, q2, q3, q4⟩ := hr' j hj
    refine ⟨?_, q3, q4⟩
    rw [q2]
    dsimp only
    split
    · exact h2
    · exact (h.base.recs j (by omega)).1

theorem late_zero {r : SRec} (h : 0 ≤ r.sat) (h1 : r.sat ≤ r.at_) (h2 : r.at_ ≤ 1000000) : r.late 0 = false := by
  have e : wrap64 (r.at_ - r.sat) = r.at_ - r.sat := by
    unfold wrap64
    omega
  unfold SRec.late
  rw [e]
  have : decide (r.at_ - r.sat < 0) = false := by simp; omega
  rw [this]
  simp

/-- What 'start' leaves. -/
def Started (N : Nat) (w0 w' : World) (m : Nat) (now : Int) (k : Nat) : Prop := ∃ k' v' rs', k' ≤ k + 1 ∧ SInv N w0 w' (m + 1) now k' v' rs'

theorem started_mk {N : Nat} {w0 w' : World} {m k k' : Nat} {now : Int} {v' : Value} {rs' : Nat → SRec} (h : k' ≤ k + 1) (hs : SInv N w0 w' (m + 1) now k' v' rs') : Started N w0 w' m now k := ⟨k', v', rs', h, hs⟩

set_option maxRecDepth 100000 in
set_option maxHeartbeats 1600000 in
theorem start_any {N : Nat} {w0 w : World} {m k : Nat} {now : Int} {v : Value} {rs : Nat → SRec} (node : ByteArray) (hnl : node.size ≤ maxLen) (h : SInv N w0 w m now k v rs) (hm : m ≤ 4096) (hk : k < 1024) (h0 : 0 ≤ now) (h1 : now ≤ 1000000) :
    Calls Ybaf.prog 18 #[.pointer (some ⟨N + 5, 0, none⟩), .string node, .int .i64 now] w fun e w' => e = .returned (.tuple #[]) ∧ Started N w0 w' m now k := by
  obtain ⟨i0, hi, hz0, hz1, hz2⟩ := info_parts info31
  obtain ⟨D1, hD1⟩ := h.m1
  obtain ⟨x, hx⟩ := look_bool hD1 hnl
  obtain ⟨c0, c1, c2, c3, c4, c5, _⟩ := h.base.cells
  cases x
  case true =>
    go_enter Ybaf.func18, Ybaf.ntmps18
    go_wp2
    refine bodyPost_ret (results_none rfl _ _ _) rfl ?_
    exact ⟨rfl, started_mk (by omega) (h.later (Nat.le_succ m) (Int.le_refl _))⟩
  case false =>
    have HK := Hid.out (p := Hid _) (keys24 (N + 1) w)
    have HS := Hid.out (p := Hid _) (sorted24 (N + 1) m D1 w hD1 (by omega))
    go_enter Ybaf.func18, Ybaf.ntmps18
    go_upto_region 2 with (first
      | (go_at_call 24; refine Calls.mono HK.out ?_; rintro e w' ⟨rfl, rfl⟩)
      | (go_at_call 22; refine Calls.mono HS.out ?_; rintro e w2 ⟨oa, on, oc, rfl, hss, hb2⟩))
    have h2 := h.kept hb2
    have hM : Mid w2 (w2.alloc (TB node now oa on oc ⟨#[]⟩ 0 false)) node now oa on oc ⟨#[]⟩ 0 false := ⟨(MapKept.heap_alloc w2 _).1, by omega, h0, Nat.zero_le _, (Below.refl _ w2).alloc (Nat.le_refl _) _, hss.kept ((Below.refl _ w2).alloc (Nat.le_refl _) _)⟩
    have h3 := h2.kept hM.bel
    obtain ⟨D3, hD3, hw3⟩ := h3.m3
    have HK3 := Hid.out (p := Hid _) (keys23n (N + 3) (w2.heap.size + 1) (w2.alloc (TB node now oa on oc ⟨#[]⟩ 0 false)) (by simp))
    have HS3 := Hid.out (p := Hid _) (sorted23n (N + 3) m (w2.heap.size + 1) D3 (w2.alloc (TB node now oa on oc ⟨#[]⟩ 0 false)) (by simp) hD3 (by omega))
    have hN5 := lt_of_block h2.base.hS
    obtain ⟨c0, c1, c2, c3, c4, c5, _⟩ := h2.base.cells
    clear HK HS hD3
    go_wp2_with (first
      | (go_at_call 23; refine Calls.mono HK3.out ?_; rintro e w' ⟨rfl, rfl⟩)
      | (go_at_call 22; refine Calls.mono HS3.out ?_; rintro e w4 ⟨oa2, on2, oc2, rfl, hss4, hb4⟩))
    have hM4 := hM.kept hb4
    have h4 := h2.kept hM4.bel
    obtain ⟨D4, hD4, hw4⟩ := h4.m3
    clear HK3 HS3 c0 c1 c2 c3 c4 c5 hM h3
    have HW := Hid.out (p := Hid _) hw4
    have hon2 : on2 ≤ 4097 := by obtain ⟨_, _, _, _, _, h⟩ := hss4; exact h
    go_loopg [34] on2 (fun r i wr => ∃ (kk : Nat) (stp : ByteArray) (sat : Int), kk + r = on2 ∧ i = .int .i64 kk ∧ Mid w2 wr node now oa on oc stp sat false ∧ StrSlice wr oa2 on2 oc2 ∧ Below w2.heap.size w2 wr)
    case atStart => exact ⟨0, _, _, by omega, rfl, hM4, hss4, hM4.bel⟩
    case round =>
      obtain ⟨kk, stp, sat, hkk, rfl, M, hstr, hbr⟩ := hrel
      have hr := h2.kept hbr
      obtain ⟨c0, c1, c2, c3, c4, c5, f5⟩ := hr.base.cells
      obtain ⟨t0, t1, t2, t3, t4, t5, f3, f4, f6⟩ := M.cells
      by_cases hlt : kk < on2
      · obtain ⟨g, s, rfl, hcell, hsl⟩ := hstr.at_ hlt
        obtain ⟨Dr, hDr, hwr⟩ := hr.m3
        go_upto_region 6 with (at_lookup; refine wpList_lookup_own_int _ rfl (.tmp 41) (.tmp 42) 34 rfl 9 28 .i64 law9 Ybaf.underlying34 Ybaf.underlying28 (zero28 _) (N + 3) m Dr rfl hDr _ _ rfl (key9 hsl) ?_; intro c hat hwc)
        obtain ⟨c', hc', q0, q1⟩ := hwr s
        obtain rfl : c' = c := by
          have h := hc'.symm.trans hat
          injection h with h1
          injection h1
        go_cut [57] (fun s57 wx => (∃ bb, s57 = .bool bb) ∧ wx = wr)
        case first =>
          go_wp2
          all_goals go_meet
          all_goals exact ⟨⟨_, rfl⟩, rfl⟩
        case rest =>
        obtain ⟨⟨bb, rfl⟩, hwc2⟩ := hcut
        subst hwc2
        cases bb
        · go_wp2
          go_roundg (gk - 1)
          case measure => omega
          case rel => exact ⟨kk + 1, stp, sat, by omega, by go_num, M, hstr, hbr⟩
        · go_wp2
          go_roundg (gk - 1)
          case measure => omega
          case rel =>
            have M' := M.set34 (stp' := s) q0 q1 hsl
            exact ⟨kk + 1, s, c', by omega, by go_num, M', sset34 hstr M.hT, M'.bel⟩
      · obtain ⟨D5, hD5⟩ := hr.m4
        obtain ⟨c, hb, hlk⟩ := look_okN hD5 M.len
        go_upto_region 9 with fail
        go_cut [10, 11] (fun s10 s11 wx => s10 = .int .i64 c ∧ s11 = .bool hb ∧ ∃ n, wx = wr.drewN n)
        case first =>
          go_quiet (fail)
          go_wp2
          go_meet
          exact ⟨rfl, rfl, _, rfl⟩
        case rest =>
        obtain ⟨rfl, rfl, nn, hwc2⟩ := hcut
        have M2 := M.kept (below_drewN wr.heap.size wr nn)
        rw [← hwc2] at M2
        have hr2 := h2.kept M2.bel
        clear hwc2 hlk c0 c1 c2 c3 c4 c5 f5 t0 t1 t2 t3 t4 t5 f3 f4 f6 hD5 M hbr hr
        obtain ⟨t0, t1, t2, t3, t4, t5, f3, f4, f6⟩ := M2.cells
        go_upto_region 10 with fail
        obtain ⟨wy, hwy⟩ : ∃ wy, wy = wc := ⟨_, rfl⟩
        rw [← hwy] at M2 hr2 t0 t1 t2 t3 t4 t5 f3 f4 f6 ⊢
        clear hwy
        go_cut [11, 79] (fun s11 s79 wx => s11 = s11 ∧ (∃ bb, s79 = .bool bb) ∧ wx = wy)
        case first =>
          go_wp2
          all_goals go_meet
          all_goals exact ⟨trivial, ⟨_, rfl⟩, rfl⟩
        case rest =>
        obtain ⟨_, ⟨bb, rfl⟩, hwc2⟩ := hcut
        subst hwc2
        go_upto_if 79 with fail
        go_cut [79] (fun s79 wx => s79 = s79 ∧ ∃ sb, Mid w2 wx node now oa on oc stp sat sb)
        case first =>
          cases bb
          · go_wp2
            go_meet
            exact ⟨trivial, _, M2⟩
          · go_wp2
            go_meet
            exact ⟨trivial, _, M2.set5⟩
        case rest =>
        obtain ⟨_, sb, M3⟩ := hcut
        clear M2 hr2 t0 t1 t2 t3 t4 t5 f3 f4 f6
        have hr3 := h2.kept M3.bel
        obtain ⟨c0, c1, c2, c3, c4, c5, f5⟩ := hr3.base.cells
        obtain ⟨D6, hD6⟩ := hr3.m1
        go_upto_region 13 with (at_mapUpdate; refine wpList_mapUpdate_own _ rfl _ _ _ 33 rfl 9 4 law9 Ybaf.underlying33 _ (N + 1) m D6 rfl hD6 (by unfold maxLen; omega) _ _ _ rfl rfl (key9 hnl) _ [] (plainElem_bool Ybaf.underlying4 true) ?_; intro w5 hown5 hgrow5)
        have hTl := lt_of_block M3.hT
        have h5 := (hr3.later (Nat.le_succ m) (Int.le_refl _)).turn1 ⟨_, hown5⟩ hgrow5
        have hT5 : w5.heap[w2.heap.size]? = some (TB node now oa on oc stp sat sb) := (hgrow5.block _ hTl (by simp; omega)).trans M3.hT
        have hro : RecOwn w5 ⟨node, now, oa, on, oc, stp, sat, sb⟩ := (M3.own.own ⟨node, now, oa, on, oc, stp, sat, sb⟩ rfl rfl).kept (keep9_grown hgrow5 (fun g hg cur hc => by
          cases hg
          obtain ⟨es, cc, hmb⟩ := map_block hD6
          rw [hc] at hmb
          cases hmb))
        have hlate : SRec.late ⟨node, now, oa, on, oc, stp, sat, sb⟩ 0 = false := late_zero M3.s0 M3.s1 h1
        have hnum : SRec.Num ⟨node, now, oa, on, oc, stp, sat, sb⟩ := ⟨by have := h0; show _ ≤ now; omega, by show now ≤ _; omega, by have := M3.s0; show _ ≤ sat; omega, by have := M3.s1; show sat ≤ _; omega⟩
        clear c0 c1 c2 c3 c4 c5 f5 hr3 M3 hD6 hown5 hgrow5
        obtain ⟨_, _, _, _, _, c5, _⟩ := h5.base.cells
        have t0 := cell_T hT5 0
        have t1 := cell_T hT5 1
        have t2 := cell_T hT5 2
        have t3 := cell_T hT5 3
        have t4 := cell_T hT5 4
        have t5 := cell_T hT5 5
        simp at t0 t1 t2 t3 t4 t5
        have hTl5 := lt_of_block hT5
        have hSl5 := lt_of_block h5.base.hS
        have HNA := Hid.out (p := Hid _) (news_at w5 ⟨node, now, oa, on, oc, stp, sat, sb⟩ oa oc)
        have HNO := Hid.out (p := Hid _) (news_one ⟨node, now, oa, on, oc, stp, sat, sb⟩)
        have HOW : Hid ((w5.alloc (TB node now oa on oc stp sat sb)).drew.ownsRow N 31 6 v k (flat rs k)) := (h5.base.row.alloc _).drew
        have hb1 : N ≤ (w5.alloc (TB node now oa on oc stp sat sb)).drew.heap.size := by simp; omega
        have HB1 := Hid.out (p := Hid _) hb1
        clear hb1 hT5
        go_region_law ((refine step_append_own rfl (.tmp 90) (.tmp 92) 32 rfl N 31 i0 _ 6 80 Ybaf.underlying32 hi hz0 hz1 hz2 rfl (by decide) v k (flat rs k) (by simp [Act.eval]) HOW.out ⟨w5.heap.size, 0, none⟩ 1 1 (SRec.cells ⟨node, now, oa, on, oc, stp, sat, sb⟩) (by simp [Act.eval]) rfl HNA.out HNO.out (by unfold maxLen; omega) (by omega) HB1.out ?_; intro v' w6 hown6 hgrow6; have hS6 := s_afterS h5.base hgrow6; have c5' : w6.cell? ⟨N + 5, 5, none⟩ = some v := (by simp [World.cell?, hS6]); have f5' : w6.frozen? ⟨N + 5, 5, none⟩ = false := (by simp [World.frozen?, hS6]); obtain ⟨g', cp', hv'⟩ := own_shape hown6; subst hv'))
        all_goals go_wp2
        all_goals go_end0
        all_goals
          obtain ⟨rs', hrs'⟩ := h5.push hlate hnum hro hown6 hgrow6
          exact ⟨rfl, started_mk (Nat.le_refl _) hrs'⟩
end Go.Proofs.YbulkasgcFmt
