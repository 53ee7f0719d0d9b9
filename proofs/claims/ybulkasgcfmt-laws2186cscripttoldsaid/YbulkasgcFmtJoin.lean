/-
  'errors.Join' over errors none of which is nil, and 'zzs2186ccount'. Our own work over the given program.
-/
import Derived.Test.YbulkasgcFmtErrorf
namespace Go.Proofs.YbulkasgcFmt
open Go.RowKit

theorem info38 : (Ybaf.prog.info? 38).map (fun i => (i.zero, i.size, i.bytes)) = some (some .nilIface, 1, 16) := by kernel_rfl

set_option maxRecDepth 100000 in
set_option maxHeartbeats 400000 in
/-- Of no errors: nil. -/
theorem join_none (ao : Option Addr) (cap : Nat) (w : World) : Calls Ybaf.prog 16 #[.slice ao 0 cap] w fun e w' => e = .returned .nilIface ∧ w' = w := by
  go_enter Ybaf.func16, Ybaf.ntmps16
  go_wp2
  refine wp_loop_rounds 1 ?_
  rw [rounds_succ]
  go_wp2
  go_ret
  exact ⟨rfl, rfl⟩

theorem kept_hid {wr w2 : World} {J g : Nat} {o o2 : Obj} (hg : (wr.alloc o2).grownBy w2 (some g)) (hl : J < wr.heap.size) (hJ : g < J) (h : Hid (wr.heap[J]? = some o)) : Hid (w2.heap[J]? = some o) :=
  (hg.block J (by simp; omega) (by simp; omega)).trans ((Below.heap_alloc _ _ _ hl).trans h.out)

set_option maxRecDepth 100000 in
set_option maxHeartbeats 800000 in
theorem join_some (b off n cap : Nat) (ps : Nat → Addr) (w : World) (hn : 0 < n) (hn2 : n ≤ 2048) (hb : b < w.heap.size) (hc : ∀ i, i < n → w.cell? ⟨b, off + i, none⟩ = some (.iface 68 (.pointer (some (ps i))))) :
    Calls Ybaf.prog 16 #[.slice (some ⟨b, off, none⟩) n cap] w fun e w' => ∃ J a c, e = .returned (.iface 59 (.pointer (some ⟨J, 0, none⟩))) ∧ w'.cell? ⟨J, 0, none⟩ = some (.slice a n c) ∧ w.heap.size ≤ J ∧ Below w.heap.size w w' := by
  obtain ⟨i0, hi, hz0, hz1, hz2⟩ := info_parts info38
  go_enter Ybaf.func16, Ybaf.ntmps16
  go_wp2
  go_loop [3, 11] (fun s3 s11 => ∃ k : Nat, k ≤ n ∧ s3 = .int .i64 k ∧ s11 = .int .i64 k) (fun _ s11 => n - (intOf s11).toNat)
  case atStart => exact ⟨0, Nat.zero_le _, rfl, rfl⟩
  case round =>
    obtain ⟨k, hk, rfl, rfl⟩ := hrel
    by_cases hlt : k < n
    · have hcx := hc k hlt
      go_wp2
      go_round
      case rel => exact ⟨k + 1, by omega, by go_num, by go_num⟩
      case measure => simp [intOf]; omega
    · obtain rfl : k = n := by omega
      have hk0 : ((k : Int) == 0) = false := by simp; omega
      go_wp2_with (at_make; refine wpList_make_own _ rfl _ _ 49 rfl w.heap.size 38 i0 .nilIface 1 Ybaf.underlying49 hi hz0 hz1 .i64 .i64 _ k rfl rfl rfl (by rw [hz2]; omega) (by unfold maxLen; omega) (Nat.le_refl _) ?_; intro w1 hown1 hgrow1)
      have hJ : w.heap.size < w1.heap.size := by
        obtain ⟨_, h | ⟨g, cp, cur, hv, _, hg, _⟩⟩ := hown1
        · cases h.1
        · cases hv
          exact lt_of_block hg
      have hb1 : Below w.heap.size w w1 := (Below.refl _ _).grown hgrow1 (Nat.le_refl _) (fun _ h => by cases h)
      have hx1 : (w1.alloc (.cells #[.slice (some ⟨w.heap.size, 0, none⟩) 0 k] 61)).heap[w1.heap.size]? = some (.cells #[.slice (some ⟨w.heap.size, 0, none⟩) 0 k] 61 (0, 0)) := (MapKept.heap_alloc w1 _).1
      have ho1 := hown1.alloc (.cells #[.slice (some ⟨w.heap.size, 0, none⟩) 0 k] 61)
      have hb2 := hb1.alloc (Nat.le_of_lt hJ) (.cells #[.slice (some ⟨w.heap.size, 0, none⟩) 0 k] 61)
      clear hown1 hgrow1 hb1 hk0
      go_loopw [28] (fun s28 wr => ∃ j : Nat, j ≤ k ∧ s28 = .int .i64 j ∧ wr.ownsRow w.heap.size 38 1 (.slice (some ⟨w.heap.size, 0, none⟩) j k) j ((List.range j).map fun i => .iface 68 (.pointer (some (ps i)))) ∧
        wr.heap[w1.heap.size]? = some (.cells #[.slice (some ⟨w.heap.size, 0, none⟩) j k] 61 (0, 0)) ∧ Below w.heap.size w wr) (fun s28 _ => k - (intOf s28).toNat)
      case atStart => exact ⟨0, Nat.zero_le _, rfl, ho1, hx1, hb2⟩
      case round =>
        obtain ⟨j, hj, rfl, hown, hcell, hbel⟩ := hrel
        clear ho1 hx1 hb2
        by_cases hlt : j < k
        · have hcx : wr.cell? ⟨b, off + j, none⟩ = some (.iface 68 (.pointer (some (ps j)))) := (hbel.cell (p := ⟨b, off + j, none⟩) hb).trans (hc j hlt)
          have hcj := cell_of_one hcell
          have hfj := free_of_one hcell
          have hlj := lt_of_block hcell
          have HC := Hid.out (p := Hid _) hcell
          clear hcell
          go_wp2_with (at_builtin; refine wpList_append_fits _ rfl (.tmp 38) (.tmp 40) 49 rfl w.heap.size 38 i0 1 Ybaf.underlying49 hi hz1 w.heap.size j k _ rfl (hown.alloc _) ⟨wr.heap.size, 0, none⟩ 1 1 [.iface 68 (.pointer (some (ps j)))] rfl rfl (cell_one_new _ _ _) (by simp [Value.oneCell']) (by omega) ?_; intro w2 hown2 hgrow2; have HC2 := kept_hid hgrow2 hlj hJ HC; have hc2 := cell_of_one HC2.out; have hf2 := free_of_one HC2.out)
          go_roundw
          case rel =>
            refine ⟨j + 1, by omega, by go_num, ?_, one_setCell HC2.out, ?_⟩
            · rw [List.range_succ, List.map_append]
              exact ownsRow_setCell_other hown2 (by simp [Value.ownBlock]; omega) _
            · exact (((hbel.alloc hbel.size _).grown hgrow2 (by have := hbel.size; simp; omega) (fun i hi => by cases hi; exact Nat.le_refl _))).setCell (Nat.le_of_lt hJ) _
          case measure => simp [intOf]; omega
        · obtain rfl : j = k := by omega
          have hcj := cell_of_one hcell
          go_wp2
          go_ret
          exact ⟨w1.heap.size, _, _, rfl, hcj, Nat.le_of_lt hJ, hbel⟩

set_option maxRecDepth 100000 in
set_option maxHeartbeats 400000 in
theorem unwrap_any (J n c : Nat) (a : Option Addr) (w : World) (hc : w.cell? ⟨J, 0, none⟩ = some (.slice a n c)) :
    Calls Ybaf.prog 73 #[.pointer (some ⟨J, 0, none⟩)] w fun e w' => e = .returned (.slice a n c) ∧ w' = w := by
  go_enter Ybaf.func73, Ybaf.ntmps73
  go_wp2
  go_ret
  exact ⟨rfl, rfl⟩

theorem method59 (a : Addr) (w : World) : (method 228 59 (.pointer (some a)) "Unwrap").run Ybaf.prog w = .ok (73, .pointer (some a)) w := by kernel_rfl
theorem assert59 (x : Value) (w : World) : (Instr.typeAssert (.iface 59 x) 38 52 true).run Ybaf.prog w = .ok (.tuple #[.iface 59 x, .bool true]) w := by kernel_rfl

set_option maxRecDepth 100000 in
set_option maxHeartbeats 400000 in
theorem count_any (J n c : Nat) (a : Option Addr) (w : World) (hc : w.cell? ⟨J, 0, none⟩ = some (.slice a n c)) :
    Calls Ybaf.prog 8 #[.iface 59 (.pointer (some ⟨J, 0, none⟩))] w fun e w' => e = .returned (.int .i64 n) ∧ w' = w := by
  have h59 := assert59
  have hm59 := method59
  go_enter Ybaf.func8, Ybaf.ntmps8
  go_wp2_with (go_at_call 73; refine (unwrap_any J n c a _ hc).mono ?_; rintro e w' ⟨rfl, rfl⟩)
  go_ret
  exact ⟨rfl, rfl⟩
end Go.Proofs.YbulkasgcFmt
