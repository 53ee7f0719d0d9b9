/-
  '(*Serving).Check': its contract: how many promises are broken, and nil where none is. Our own work over the given program.
-/
import Derived.Test.YbulkasgcFmtJoin
namespace Go.Proofs.YbulkasgcFmt
open Go.RowKit

/-- A 'Start', its fields as values. -/
structure SRec where
  node : ByteArray
  at_ : Int
  oa : Option Addr
  on : Nat
  oc : Nat
  stopped : ByteArray
  sat : Int
  sby : Bool

/-- The six cells of a 'Start'. -/
def SRec.cells (r : SRec) : List Value := [.string r.node, .int .i64 r.at_, .slice r.oa r.on r.oc, .string r.stopped, .int .i64 r.sat, .bool r.sby]

/-- What is known of a 'Start': its numbers fit; where 'Others' is not empty its strings lie in memory. -/
structure SRec.Ok (r : SRec) (w : World) : Prop where
  at1 : -9223372036854775808 ≤ r.at_
  at2 : r.at_ ≤ 9223372036854775807
  sat1 : -9223372036854775808 ≤ r.sat
  sat2 : r.sat ≤ 9223372036854775807
  oth : 0 < r.on → ∃ (a : Addr) (ss : List ByteArray), r.oa = some a ∧ ss.length = r.on ∧ a.block < w.heap.size ∧ ∀ j v, (ss.map Value.string)[j]? = some v → w.cell? (a.add j) = some v

/-- A start too soon after an unfinished demote. -/
def SRec.late (r : SRec) (lead : Int) : Bool := !r.stopped.toList.isEmpty && !r.sby && decide (wrap64 (r.at_ - r.sat) < lead)

theorem late_a {r : SRec} {lead : Int} (h : r.stopped.toList = []) : r.late lead = false := by
  unfold SRec.late
  rw [h]
  rfl
theorem late_b {r : SRec} {lead : Int} (h : r.sby = true) : r.late lead = false := by
  unfold SRec.late
  rw [h]
  simp
theorem late_c {r : SRec} {lead : Int} (h : ¬ r.sby = true) : r.late lead = (!r.stopped.toList.isEmpty && decide (wrap64 (r.at_ - r.sat) < lead)) := by
  have h' : r.sby = false := by simpa using h
  unfold SRec.late
  rw [h']
  simp

/-- How many promises the first k starts break. -/
def cnt (rs : Nat → SRec) (lead : Int) : Nat → Nat
  | 0 => 0
  | k + 1 => cnt rs lead k + (if 0 < (rs k).on then 1 else 0) + (if (rs k).late lead then 1 else 0)

theorem cnt_le (rs : Nat → SRec) (lead : Int) : ∀ k, cnt rs lead k ≤ 2 * k
  | 0 => Nat.le_refl _
  | k + 1 => by
    have := cnt_le rs lead k
    unfold cnt
    split <;> split <;> omega

/-- Block b holds n starts, one behind the other. -/
def StartsAt (w : World) (b n : Nat) (rs : Nat → SRec) : Prop := ∀ k, k < n → ∀ j v, (rs k).cells[j]? = some v → w.cell? ⟨b, k * 6 + j, none⟩ = some v

theorem grown_of_below {w w' : World} (h : Below w.heap.size w w') : w.grownBy w' none := ⟨h.os, h.tape, h.output, h.size, fun k hk _ => h.block k hk⟩

/-- 'fmt.Errorf' at the first format, the slice as the record has it. -/
theorem errorfA' (blk : Nat) (r : SRec) (w w0 : World) (ok : r.Ok w0) (ho : 0 < r.on) (hbel : Below w0.heap.size w0 w)
    (c0 : w.cell? ⟨blk, 0, none⟩ = some (.iface 28 (.int .i64 r.at_))) (c1 : w.cell? ⟨blk, 1, none⟩ = some (.iface 9 (.string r.node))) (c2 : w.cell? ⟨blk, 2, none⟩ = some (.iface 25 (.slice r.oa r.on r.oc))) (hb : blk < w.heap.size) :
    Calls Ybaf.prog 15 #[.string fmtA, .slice (some ⟨blk, 0, none⟩) 3 3] w fun e w' => ∃ g, e = .returned (.iface 68 (.pointer (some ⟨g, 0, none⟩))) ∧ Below w.heap.size w w' := by
  obtain ⟨a, ss, hoa, hssl, hab, hsc⟩ := ok.oth ho
  rw [hoa, ← hssl] at c2
  refine errorfA blk r.at_ r.node a r.oc ss w ok.at1 ok.at2 c0 c1 c2 hb (Nat.lt_of_lt_of_le hab hbel.size) fun j v hj => ?_
  exact (hbel.cell (p := a.add j) (by unfold Addr.add; split <;> exact hab)).trans (hsc j v hj)

theorem wrap64_bd (x : Int) : -9223372036854775808 ≤ wrap64 x ∧ wrap64 x ≤ 9223372036854775807 := by
  unfold wrap64
  omega

/-- v is a slice of the call's own (blocks from B on) of m errors, none of them nil. -/
def Errs (B : Nat) (w : World) (v : Value) (m : Nat) : Prop := ∃ ps : Nat → Addr, w.ownsRow B 38 1 v m ((List.range m).map fun i => .iface 68 (.pointer (some (ps i))))

theorem Errs.kept {B : Nat} {w w' : World} {v : Value} {m : Nat} (h : Errs B w v m) (hb : Below w.heap.size w w') : Errs B w' v m := by
  obtain ⟨ps, h⟩ := h
  exact ⟨ps, h.kept (grown_of_below hb) (by cases v.ownBlock <;> simp)⟩

theorem Errs.push {B : Nat} {w : World} {v : Value} {m : Nat} {ps : Nat → Addr} {p : Addr} (h : w.ownsRow B 38 1 v (m + 1) (((List.range m).map fun i => Value.iface 68 (.pointer (some (ps i)))) ++ [.iface 68 (.pointer (some p))])) : Errs B w v (m + 1) := by
  refine ⟨fun i => if i = m then p else ps i, ?_⟩
  have e : ((List.range (m + 1)).map fun i => Value.iface 68 (.pointer (some (if i = m then p else ps i)))) = ((List.range m).map fun i => Value.iface 68 (.pointer (some (ps i)))) ++ [.iface 68 (.pointer (some p))] := by
    rw [List.range_succ, List.map_append]
    congr 1
    · apply List.map_congr_left
      intro i hi
      rw [if_neg (by have := List.mem_range.1 hi; omega)]
    · simp
  rw [e]
  exact h

/-- 'errors.Join' of such a slice. -/
theorem join_errs (B : Nat) (w : World) (v : Value) (m : Nat) (h : Errs B w v m) (hm : m ≤ 2048) :
    Calls Ybaf.prog 16 #[v] w fun e w' => Below w.heap.size w w' ∧ ((m = 0 ∧ e = .returned .nilIface) ∨ (0 < m ∧ ∃ J a c, e = .returned (.iface 59 (.pointer (some ⟨J, 0, none⟩))) ∧ w'.cell? ⟨J, 0, none⟩ = some (.slice a m c))) := by
  obtain ⟨ps, h⟩ := h
  have hcopy := h
  obtain ⟨_, h1 | ⟨g, cp, cur, rfl, _, hh, _⟩⟩ := h
  · obtain ⟨rfl, rfl⟩ := h1
    refine (join_none none 0 w).mono ?_
    rintro e w' ⟨rfl, rfl⟩
    exact ⟨Below.refl _ _, .inl ⟨rfl, rfl⟩⟩
  · by_cases h0 : m = 0
    · subst h0
      refine (join_none _ cp w).mono ?_
      rintro e w' ⟨rfl, rfl⟩
      exact ⟨Below.refl _ _, .inl ⟨rfl, rfl⟩⟩
    · refine (join_some g 0 m cp ps w (by omega) hm (lt_of_block hh) fun i hi => ?_).mono ?_
      · rw [Nat.zero_add, hcopy.cellAt i (by omega)]
        simp [hi]
      · rintro e w' ⟨J, a, c, rfl, hc, _, hb⟩
        exact ⟨hb, .inr ⟨by omega, J, a, c, rfl, hc⟩⟩

/-- What an append to the errors leaves as it was. -/
theorem after_append {B T : Nat} {w0 w3 w4 : World} {o : Obj} {v : Value} {m : Nat} {xs : List Value} {cs : Array Value} (hown : w3.ownsRow B 38 1 v m xs) (hg : (w3.alloc o).grownBy w4 v.ownBlock) (hT : w3.heap[T]? = some (.cells cs 31 (0, 0))) (hb : Below B w0 w3) (hB : B ≤ w3.heap.size) :
    w4.heap[T]? = some (.cells cs 31 (0, 0)) ∧ Below B w0 w4 := by
  have hv : ∀ g, v.ownBlock = some g → B ≤ g ∧ g ≠ T := by
    intro g hg'
    obtain ⟨_, h | ⟨g', cp, cur, rfl, hBg, hh, _⟩⟩ := hown
    · rw [h.1] at hg'; cases hg'
    · simp [Value.ownBlock] at hg'
      subst hg'
      refine ⟨hBg, fun e => ?_⟩
      subst e
      rw [hh] at hT
      cases hT
  have hTl := lt_of_block hT
  refine ⟨?_, ?_⟩
  · exact (hg.block T (by simp; omega) (fun e => (hv T e.symm).2 rfl)).trans ((Below.heap_alloc _ _ _ hTl).trans hT)
  · exact (hb.alloc hB o).grown hg (by simp; omega) (fun g hg' => (hv g hg').1)

theorem cell_T {w : World} {T : Nat} {cs : Array Value} (h : w.heap[T]? = some (.cells cs 31 (0, 0))) (i : Nat) : w.cell? ⟨T, i, none⟩ = cs[i]? := by simp [World.cell?, h]

set_option maxRecDepth 100000 in
set_option maxHeartbeats 800000 in
theorem check_some (S b n cap : Nat) (rs : Nat → SRec) (lead : Int) (w : World) (hl1 : -9223372036854775808 ≤ lead) (hl2 : lead ≤ 9223372036854775807) (hn : n ≤ 1024) (hb : b < w.heap.size)
    (c5 : w.cell? ⟨S, 5, none⟩ = some (.slice (some ⟨b, 0, none⟩) n cap)) (hst : StartsAt w b n rs) (hok : ∀ k, k < n → (rs k).Ok w) :
    Calls Ybaf.prog 7 #[.pointer (some ⟨S, 0, none⟩), .int .i64 lead] w fun e w' => Below w.heap.size w w' ∧
      ((cnt rs lead n = 0 ∧ e = .returned .nilIface) ∨ (0 < cnt rs lead n ∧ ∃ J a c, e = .returned (.iface 59 (.pointer (some ⟨J, 0, none⟩))) ∧ w'.cell? ⟨J, 0, none⟩ = some (.slice a (cnt rs lead n) c))) := by
  obtain ⟨i0, hi, hz0, hz1, hz2⟩ := info_parts info38
  have HST := Hid.out (p := Hid _) hst
  have HOK := Hid.out (p := Hid _) hok
  clear hst hok
  go_enter Ybaf.func7, Ybaf.ntmps7
  go_wp2
  go_loopg [5, 13] n (fun r v i wr => ∃ k : Nat, k + r = n ∧ i = .int .i64 k ∧ Errs w.heap.size wr v (cnt rs lead k) ∧ Below w.heap.size w wr)
  case atStart => exact ⟨0, by omega, rfl, ⟨fun _ => ⟨0, 0, none⟩, World.ownsRow_nil _ _ _ _⟩, Below.refl _ _⟩
  case round =>
    obtain ⟨k, hk, rfl, hown, hbel⟩ := hrel
    by_cases hlt : k < n
    · have hs : ∀ j v, (rs k).cells[j]? = some v → wr.cell? ⟨b, k * 6 + j, none⟩ = some v := fun j v hj => (hbel.cell (p := ⟨b, k * 6 + j, none⟩) hb).trans (HST.out k hlt j v hj)
      have s0 : wr.cell? ⟨b, k * 6, none⟩ = some (.string (rs k).node) := hs 0 _ rfl
      have s1 := hs 1 _ rfl
      have s2 := hs 2 _ rfl
      have s3 := hs 3 _ rfl
      have s4 := hs 4 _ rfl
      have s5 := hs 5 _ rfl
      have ok := HOK.out k hlt
      have hcl := cnt_le rs lead k
      have HCN : Hid (cnt rs lead (k + 1) = cnt rs lead k + (if 0 < (rs k).on then 1 else 0) + (if (rs k).late lead then 1 else 0)) := rfl
      obtain ⟨m, hm⟩ : ∃ m, m = cnt rs lead k := ⟨_, rfl⟩
      rw [← hm] at hown hcl HCN
      obtain ⟨r, hr⟩ : ∃ r, r = rs k := ⟨_, rfl⟩
      rw [← hr] at s0 s1 s2 s3 s4 s5 ok HCN
      clear hs hm hr
      go_upto_if 20 with fail
      go_cut [5] (fun v wx => Errs w.heap.size wx v (m + (if 0 < r.on then 1 else 0)) ∧ wx.heap[wr.heap.size]? = some (.cells #[.string r.node, .int .i64 r.at_, .slice r.oa r.on r.oc, .string r.stopped, .int .i64 r.sat, .bool r.sby] 31 (0, 0)) ∧ Below w.heap.size w wx)
      case first =>
        clear s0 s1 s2 s3 s4 s5
        by_cases ho : 0 < r.on
        · have ob := (hbel.alloc hbel.size (.cells #[.string r.node, .int .i64 r.at_, .slice r.oa r.on r.oc, .string r.stopped, .int .i64 r.sat, .bool r.sby] 31)).alloc (by have := hbel.size; simp; omega) (.cells #[.iface 28 (.int .i64 r.at_), .iface 9 (.string r.node), .iface 25 (.slice r.oa r.on r.oc)] 20)
          go_wp2_with fail
          refine Calls.mono (errorfA' (wr.heap.size + 1) r _ w ok ho ob (by go_simp) (by go_simp) (by go_simp) (by simp)) ?_
          rintro e w3 ⟨g, rfl, hb3⟩
          have hown3 : Errs w.heap.size w3 _ m := ((hown.kept ((Below.refl _ _).alloc (Nat.le_refl _) _)).kept ((Below.refl _ _).alloc (Nat.le_refl _) _)).kept hb3
          have hT3 : w3.heap[wr.heap.size]? = some (.cells #[.string r.node, .int .i64 r.at_, .slice r.oa r.on r.oc, .string r.stopped, .int .i64 r.sat, .bool r.sby] 31 (0, 0)) :=
            (hb3.block _ (by simp; omega)).trans ((Below.heap_alloc _ _ _ (by simp)).trans (MapKept.heap_alloc wr _).1)
          have hbel3 := ob.trans (hb3.mono (by have := hbel.size; simp; omega))
          have hs3 := hb3.size
          obtain ⟨ps, hown3⟩ := hown3
          clear hown ob hb3
          go_wp2_with (at_builtin; refine wpList_append_own _ rfl (.tmp 21) (.tmp 33) 49 rfl w.heap.size 38 i0 .nilIface 1 16 Ybaf.underlying49 hi hz0 hz1 hz2 rfl (by decide) _ m _ rfl (hown3.alloc _) ⟨w3.heap.size, 0, none⟩ 1 1 [.iface 68 (.pointer (some ⟨g, 0, none⟩))] rfl rfl (cell_one_new _ _ _) (by simp [Value.oneCell']) (by unfold maxLen; omega) (by omega) (by have := hbel3.size; simp; omega) ?_; intro v' w4 hown4 hgrow4 _)
          go_meet
          obtain ⟨hT4, hbel4⟩ := after_append hown3 hgrow4 hT3 hbel3 hbel3.size
          rw [if_pos ho]
          exact ⟨Errs.push hown4, hT4, hbel4⟩
        · go_wp2_with fail
          go_meet
          rw [if_neg ho]
          exact ⟨hown.kept ((Below.refl _ _).alloc (Nat.le_refl _) _), (MapKept.heap_alloc wr _).1, hbel.alloc hbel.size _⟩
      case rest =>
      obtain ⟨hown2, hT, hbel2⟩ := hcut
      clear hown hbel s0 s1 s2 s3 s4 s5
      have t0 := cell_T hT 0
      have t1 := cell_T hT 1
      have t3 := cell_T hT 3
      have t4 := cell_T hT 4
      have t5 := cell_T hT 5
      simp at t0 t1 t3 t4 t5
      have hTl := lt_of_block hT
      have hm2 : m + (if 0 < r.on then 1 else 0) ≤ 2 * k + 1 := by split <;> omega
      obtain ⟨m2, hme⟩ : ∃ m2, m2 = m + (if 0 < r.on then 1 else 0) := ⟨_, rfl⟩
      rw [← hme] at hown2 hm2 HCN
      clear hme
      have HT := Hid.out (p := Hid _) hT
      clear hT
      go_upto_region 7 with fail
      go_cut [51] (fun s51 wx => s51 = .bool (r.late lead) ∧ wx = wc)
      case first =>
        go_wp2
        all_goals go_meet
        · exact ⟨by rw [late_a ‹_›], rfl⟩
        · exact ⟨by rw [late_b ‹r.sby = true›], rfl⟩
        · exact ⟨by rw [late_c ‹¬ r.sby = true›], rfl⟩
      case rest =>
      obtain ⟨rfl, rfl⟩ := hcut
      go_upto_if 51 with fail
      obtain ⟨lt, hlte⟩ : ∃ lt, lt = r.late lead := ⟨_, rfl⟩
      rw [← hlte] at HCN ⊢
      clear hlte
      cases lt
      · go_wp2
        go_roundg (gk - 1)
        case measure => omega
        case rel => exact ⟨k + 1, by omega, by go_num, by rw [HCN.out]; exact hown2, hbel2⟩
      · have hd := wrap64_bd (r.at_ - r.sat)
        have ob := hbel2.alloc hbel2.size (.cells #[.iface 28 (.int .i64 r.at_), .iface 9 (.string r.node), .iface 28 (.int .i64 (wrap64 (r.at_ - r.sat))), .iface 9 (.string r.stopped), .iface 28 (.int .i64 lead)] 20)
        go_wp2_with fail
        refine Calls.mono (errorfB _ r.at_ (wrap64 (r.at_ - r.sat)) lead r.node r.stopped _ ⟨ok.at1, ok.at2⟩ hd ⟨hl1, hl2⟩ (by go_simp) (by go_simp) (by go_simp) (by go_simp) (by go_simp) (by simp)) ?_
        rintro e w3 ⟨g, rfl, hb3⟩
        have hown3 : Errs w.heap.size w3 _ m2 := (hown2.kept ((Below.refl _ _).alloc (Nat.le_refl _) _)).kept hb3
        have hT3 := (hb3.block _ (by simp; omega)).trans ((Below.heap_alloc _ _ _ hTl).trans HT.out)
        have hbel3 := ob.trans (hb3.mono (by have := hbel2.size; simp; omega))
        have HT3 := Hid.out (p := Hid _) hT3
        obtain ⟨ps, hown3⟩ := hown3
        clear hown2 ob hb3 hT3
        go_wp2_with (at_builtin; refine wpList_append_own _ rfl (.tmp 52) (.tmp 72) 49 rfl w.heap.size 38 i0 .nilIface 1 16 Ybaf.underlying49 hi hz0 hz1 hz2 rfl (by decide) _ m2 _ rfl (hown3.alloc _) ⟨w3.heap.size, 0, none⟩ 1 1 [.iface 68 (.pointer (some ⟨g, 0, none⟩))] rfl rfl (cell_one_new _ _ _) (by simp [Value.oneCell']) (by unfold maxLen; omega) (by omega) (by have := hbel3.size; simp; omega) ?_; intro v' w4 hown4 hgrow4 _)
        go_roundg (gk - 1)
        case measure => omega
        case rel =>
          obtain ⟨_, hbel4⟩ := after_append hown3 hgrow4 HT3.out hbel3 hbel3.size
          exact ⟨k + 1, by omega, by go_num, by rw [HCN.out]; exact Errs.push hown4, hbel4⟩
    · obtain rfl : k = n := by omega
      have hcl := cnt_le rs lead k
      have HJ := Hid.out (p := Hid _) (join_errs _ _ _ _ hown (by omega))
      clear hown HST HOK
      go_wp2_with fail
      refine Calls.mono HJ.out ?_
      rintro e w2 ⟨hb2, h2 | ⟨h2, J, a, c, rfl, hcj⟩⟩
      · obtain ⟨h0, rfl⟩ := h2
        have H0 := Hid.out (p := Hid _) h0
        clear h0
        go_wp2_with fail
        go_ret
        exact ⟨hbel.trans (hb2.mono hbel.size), .inl ⟨H0.out, rfl⟩⟩
      · go_wp2_with fail
        go_ret
        exact ⟨hbel.trans (hb2.mono hbel.size), .inr ⟨h2, J, a, c, rfl, hcj⟩⟩

set_option maxRecDepth 100000 in
set_option maxHeartbeats 400000 in
/-- Where there is no start at all. -/
theorem check_none (S cap : Nat) (ao : Option Addr) (lead : Int) (w : World) (c5 : w.cell? ⟨S, 5, none⟩ = some (.slice ao 0 cap)) :
    Calls Ybaf.prog 7 #[.pointer (some ⟨S, 0, none⟩), .int .i64 lead] w fun e w' => e = .returned .nilIface ∧ w' = w := by
  go_enter Ybaf.func7, Ybaf.ntmps7
  go_wp2
  refine wp_loop_rounds 1 ?_
  rw [rounds_succ]
  go_wp2_with (go_at_call 16; refine (join_none none 0 _).mono ?_; rintro e w' ⟨rfl, rfl⟩)
  go_ret
  exact ⟨rfl, rfl⟩

end Go.Proofs.YbulkasgcFmt
