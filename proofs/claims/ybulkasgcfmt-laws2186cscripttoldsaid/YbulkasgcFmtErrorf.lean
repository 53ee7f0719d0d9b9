/-
  'fmt.Errorf' at this program's two formats: a contract that says as much as our laws want: it returns an error that is not nil; nothing that was there has turned. Our own work over the given program.
-/
import Derived.Test.YbulkasgcFmtFacts
namespace Go.Proofs.YbulkasgcFmt
open Go.RowKit Go.Extern.Stop Go.Stop Go.Extern

attribute [local go_sem] call19 guardF printedA printedB act28 act9 act25 str28 op9 ptr68 elem68

set_option maxRecDepth 100000 in
set_option maxHeartbeats 800000 in
theorem errorfA (blk : Nat) (d : Int) (node : ByteArray) (a : Addr) (cap : Nat) (ss : List ByteArray) (w : World) (h0 : -9223372036854775808 ≤ d) (h1 : d ≤ 9223372036854775807)
    (c0 : w.cell? ⟨blk, 0, none⟩ = some (.iface 28 (.int .i64 d))) (c1 : w.cell? ⟨blk, 1, none⟩ = some (.iface 9 (.string node))) (c2 : w.cell? ⟨blk, 2, none⟩ = some (.iface 25 (.slice (some a) ss.length cap)))
    (hb : blk < w.heap.size) (ha : a.block < w.heap.size) (hc : ∀ j v, (ss.map Value.string)[j]? = some v → w.cell? (a.add j) = some v) :
    Calls Ybaf.prog 15 #[.string fmtA, .slice (some ⟨blk, 0, none⟩) 3 3] w fun e w' => ∃ g, e = .returned (.iface 68 (.pointer (some ⟨g, 0, none⟩))) ∧ Below w.heap.size w w' := by
  go_enter Ybaf.func15, Ybaf.ntmps15
  go_wp2
  apply rows_call nextTurns
  case hr =>
    go_simp
    exact ⟨⟨rfl, rfl, rfl⟩, rfl⟩
  case hi => exact invoke28 _ _
  case hc =>
    refine (string_any d _ h0 h1).mono fun e w3 ⟨s, he, hx⟩ => ?_
    subst he
    have c13 : w3.cell? ⟨blk, 1, none⟩ = some (.iface 9 (.string node)) := (hx.cell (p := ⟨blk, 1, none⟩) hb).trans c1
    have c23 : w3.cell? ⟨blk, 2, none⟩ = some (.iface 25 (.slice (some a) ss.length cap)) := (hx.cell (p := ⟨blk, 2, none⟩) hb).trans c2
    have hop := op25 "fmt.errorf" a cap ss w3 (fun j v hj => (hx.cell (p := a.add j) (by unfold Addr.add; split <;> exact ha)).trans (hc j v hj))
    apply rows_value nextReturned
    case hr =>
      go_simp
      exact ⟨rfl, rfl⟩
    case h =>
      go_wp2
      go_ret
      exact ⟨w3.heap.size, rfl, (hx.alloc hx.size _).drew⟩

set_option maxRecDepth 100000 in
set_option maxHeartbeats 800000 in
theorem errorfB (blk : Nat) (d dd lead : Int) (node stopped : ByteArray) (w : World) (h0 : -9223372036854775808 ≤ d ∧ d ≤ 9223372036854775807) (h1 : -9223372036854775808 ≤ dd ∧ dd ≤ 9223372036854775807) (h2 : -9223372036854775808 ≤ lead ∧ lead ≤ 9223372036854775807)
    (c0 : w.cell? ⟨blk, 0, none⟩ = some (.iface 28 (.int .i64 d))) (c1 : w.cell? ⟨blk, 1, none⟩ = some (.iface 9 (.string node))) (c2 : w.cell? ⟨blk, 2, none⟩ = some (.iface 28 (.int .i64 dd)))
    (c3 : w.cell? ⟨blk, 3, none⟩ = some (.iface 9 (.string stopped))) (c4 : w.cell? ⟨blk, 4, none⟩ = some (.iface 28 (.int .i64 lead))) (hb : blk < w.heap.size) :
    Calls Ybaf.prog 15 #[.string fmtB, .slice (some ⟨blk, 0, none⟩) 5 5] w fun e w' => ∃ g, e = .returned (.iface 68 (.pointer (some ⟨g, 0, none⟩))) ∧ Below w.heap.size w w' := by
  go_enter Ybaf.func15, Ybaf.ntmps15
  go_wp2
  apply rows_call nextTurns
  case hr =>
    go_simp
    exact ⟨⟨rfl, rfl, rfl⟩, rfl⟩
  case hi => exact invoke28 _ _
  case hc =>
    refine (string_any d _ h0.1 h0.2).mono fun e w3 ⟨s, he, hx⟩ => ?_
    subst he
    have k1 : w3.cell? ⟨blk, 1, none⟩ = some (.iface 9 (.string node)) := (hx.cell (p := ⟨blk, 1, none⟩) hb).trans c1
    have k2 : w3.cell? ⟨blk, 2, none⟩ = some (.iface 28 (.int .i64 dd)) := (hx.cell (p := ⟨blk, 2, none⟩) hb).trans c2
    have k3 : w3.cell? ⟨blk, 3, none⟩ = some (.iface 9 (.string stopped)) := (hx.cell (p := ⟨blk, 3, none⟩) hb).trans c3
    have k4 : w3.cell? ⟨blk, 4, none⟩ = some (.iface 28 (.int .i64 lead)) := (hx.cell (p := ⟨blk, 4, none⟩) hb).trans c4
    have hb3 := Nat.lt_of_lt_of_le hb hx.size
    apply rows_call nextReturned
    case hr =>
      go_simp
      exact ⟨⟨rfl, rfl, rfl⟩, rfl⟩
    case hi => exact invoke28 _ _
    case hc =>
      refine (string_any dd _ h1.1 h1.2).mono fun e w4 ⟨s2, he, hy⟩ => ?_
      subst he
      have j3 : w4.cell? ⟨blk, 3, none⟩ = some (.iface 9 (.string stopped)) := (hy.cell (p := ⟨blk, 3, none⟩) hb3).trans k3
      have j4 : w4.cell? ⟨blk, 4, none⟩ = some (.iface 28 (.int .i64 lead)) := (hy.cell (p := ⟨blk, 4, none⟩) hb3).trans k4
      apply rows_call nextReturned
      case hr =>
        go_simp
        exact ⟨⟨rfl, rfl, rfl⟩, rfl⟩
      case hi => exact invoke28 _ _
      case hc =>
        refine (string_any lead _ h2.1 h2.2).mono fun e w5 ⟨s3, he, hz⟩ => ?_
        subst he
        have hbel : Below w.heap.size w w5 := (hx.trans (hy.mono hx.size)).trans (hz.mono (Nat.le_trans hx.size hy.size))
        apply rows_value nextReturned
        case hr =>
          go_simp
          exact ⟨rfl, rfl⟩
        case h =>
          go_wp2
          go_ret
          exact ⟨w5.heap.size, rfl, (hbel.alloc hbel.size _).drew⟩

end Go.Proofs.YbulkasgcFmt
