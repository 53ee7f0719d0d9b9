/-
  'LawS2191CToken': the walk. Our own work over the given program.
-/
import Derived.Test.YbulkasiuClock
namespace Go.Proofs.Ybulkasiu
open Go.RowKit Go.Conc

/-- How many tokens lie in the channel behind k wakes. -/
def tok (k : Nat) : Array Value := if k = 0 then #[] else #[.agg #[]]

theorem tok_zero : tok 0 = #[] := rfl
theorem tok_succ (k : Nat) : tok (k + 1) = #[.agg #[]] := rfl

/-- One wake more. -/
theorem wake_any (N T a b d k s : Nat) (rn : Value) (w : World) (h : Clk N w T a b d rn (tok k) s) :
    Calls Yba.prog 10 #[.pointer (some ⟨T, 0, none⟩), .pointer none] w fun e w' => e = .returned (.tuple #[]) ∧ ∃ s', Clk N w' T a b d rn (tok (k + 1)) s' ∧ Below N w w' := by
  have h' := h
  obtain ⟨h1, h2, h3, h4, h5, h6⟩ := h
  have c0 : w.cell? ⟨T, 0, none⟩ = some (.chan (some a)) := by simp [World.cell?, h1]
  rcases k with _ | k
  · refine (wake_room T a 1 s 0 #[] w c0 h2 (by simp)).mono ?_
    rintro e w' ⟨rfl, rfl⟩
    refine ⟨rfl, s + 1, ?_, below_setChan (Below.refl _ w) h5 _ _ _ _ _ _⟩
    have la := lt_of_block h2
    have k : ∀ {i : Nat} {o : Obj}, i ≠ a → w.heap[i]? = some o → (w.setChan a 1 #[.agg #[]] false (s + 1) 0 false).heap[i]? = some o := fun {i o} hi ho => by
      simp only [World.setChan]
      rw [Array.getElem?_setIfInBounds_ne (by omega)]
      exact ho
    have n1 : T ≠ a := by rintro rfl; rw [h1] at h2; cases h2
    have n2 : b ≠ a := by rintro rfl; rw [h3] at h2; cases h2
    have n3 : d ≠ a := by rintro rfl; rw [h4] at h2; cases h2
    refine ⟨k n1 h1, heap_setChan w a 1 #[.agg #[]] false (s + 1) 0 false la, k n2 h3, k n3 h4, h5, ?_⟩
    rcases h6 with rfl | ⟨g, n, rfl, hg, hne⟩
    · exact .inl rfl
    · exact .inr ⟨g, n, rfl, k hne hg, hne⟩
  · refine (wake_full T a 1 s 0 (tok (k + 1)) w c0 h2 (by simp [tok])).mono ?_
    rintro e w' ⟨rfl, rfl⟩
    exact ⟨rfl, s, h', Below.refl _ _⟩

theorem neq_none (w : World) : (binOp .neq 57 (.chan none) (.chan none)).run Yba.prog w = .ok (.bool false) w := by kernel_rfl
theorem neq_some (g : Nat) (w : World) : (binOp .neq 57 (.chan (some g)) (.chan none)).run Yba.prog w = .ok (.bool true) w := by kernel_rfl

theorem wf_u8 {n : Int} (h : (Lit.int .u8 n).wf = true) : 0 ≤ n ∧ n ≤ 255 := by
  simp [Lit.wf, IntKind.min, IntKind.max, IntKind.signed, IntKind.bits] at h
  omega
theorem wf_i8 {n : Int} (h : (Lit.int .i8 n).wf = true) : -128 ≤ n ∧ n ≤ 127 := by
  simp [Lit.wf, IntKind.min, IntKind.max, IntKind.signed, IntKind.bits] at h
  omega

set_option maxRecDepth 100000 in
theorem walkT (a0 : Int) (a1 : Int) (w0 : (Lit.int .u8 a0).wf = true) (w1 : (Lit.int .i8 a1).wf = true) (w : World) :
    Calls Yba.prog 5 #[.int .u8 a0, .int .i8 a1] w fun e w' => e = .returned (.bool true) ∧ Below w.heap.size w w' := by
  obtain ⟨l0, l1⟩ := wf_u8 w0
  obtain ⟨l2, l3⟩ := wf_i8 w1
  obtain ⟨n, rfl⟩ : ∃ n : Nat, a0 = n := ⟨a0.toNat, by omega⟩
  go_enter Yba.func5, Yba.ntmps5
  go_wp2_with fail
  refine Calls.mono (newClock a1 w l2 l3) ?_
  rintro e w2 ⟨T, a, b, d, rn, rfl, hclk, hbel⟩
  go_wp2_with fail
  go_loopg [7] n (fun r i wr => ∃ (k s : Nat), k + r = n ∧ i = .int .i64 k ∧ Clk w.heap.size wr T a b d rn (tok k) s ∧ Below w.heap.size w wr)
  case atStart => exact ⟨0, 0, by omega, rfl, hclk, hbel⟩
  case round =>
    obtain ⟨k, s, hk, rfl, hc, hb⟩ := hrel
    by_cases hlt : k < n
    · go_wp2_with fail
      refine Calls.mono (wake_any _ T a b d k s rn wr hc) ?_
      rintro e w3 ⟨rfl, s', hc3, hb3⟩
      go_wp2
      go_roundg (gk - 1)
      case measure => omega
      case rel => exact ⟨k + 1, s', by omega, by go_num, hc3, hb.trans hb3⟩
    · obtain rfl : k = n := by omega
      obtain ⟨h1, h2, h3, h4, h5, h6⟩ := hc
      have c0 : wr.cell? ⟨T, 0, none⟩ = some (.chan (some a)) := by simp [World.cell?, h1]
      have c1 : wr.cell? ⟨T, 1, none⟩ = some (.chan (some b)) := by simp [World.cell?, h1]
      have c2 : wr.cell? ⟨T, 2, none⟩ = some (.chan (some d)) := by simp [World.cell?, h1]
      have c3 : wr.cell? ⟨T, 3, none⟩ = some rn := by simp [World.cell?, h1]
      have la := fun t => run_len_chan (P := Yba.prog) (w := wr) 57 t Yba.underlying57 h2
      have lc := fun t => run_cap_chan (P := Yba.prog) (w := wr) 57 t Yba.underlying57 h2
      have lb := fun t => run_len_chan (P := Yba.prog) (w := wr) 57 t Yba.underlying57 h3
      have ld := fun t => run_len_chan (P := Yba.prog) (w := wr) 57 t Yba.underlying57 h4
      have hq0 := neq_none
      rcases h6 with rfl | ⟨g, m, rfl, hg, hne⟩
      · rcases k with _ | k
        · go_wp2
          go_ret
          exact ⟨rfl, hb⟩
        · have hts := tok_succ k
          go_wp2
          go_ret
          exact ⟨rfl, hb⟩
      · have lg := fun t => run_len_chan (P := Yba.prog) (w := wr) 57 t Yba.underlying57 hg
        have hq1 := neq_some g
        rcases k with _ | k
        · go_wp2
          go_ret
          exact ⟨rfl, hb⟩
        · have hts := tok_succ k
          go_wp2
          go_ret
          exact ⟨rfl, hb⟩
end Go.Proofs.Ybulkasiu
