/-
  'LawS2186AExact', 'LawS2186ADrift': the walks. Our own work over the given program.
-/
import Derived.Test.YbulkasgcACheck
namespace Go.Proofs.Ybulkasgc
open Go.RowKit Go.WideMaps Go.Maps

theorem wrap64_id {n : Int} (h : (Lit.int .i64 n).wf = true) : wrap64 n = n := by
  simp [Lit.wf, IntKind.min, IntKind.max, IntKind.signed, IntKind.bits] at h
  unfold wrap64
  omega

/-- Without a drift the clock shows the simulated time. -/
theorem clk_zero {t : Int} (h : (Lit.int .i64 t).wf = true) : clk t 0 = t := by
  have h0 : wrap64 0 = 0 := wrap64_id (by decide)
  unfold clk
  simp [h0, wrap64_id h]

set_option maxRecDepth 100000 in
set_option maxHeartbeats 400000 in
theorem walk_exact (node : ByteArray) (ao : Option Addr) (len cap : Nat) (ss : Nat → ByteArray) (present : Bool) (at_ now sil st : Int) (w : World) (hnl : node.size ≤ maxLen) (hm : len ≤ maxLen) (hss : ∀ k, (ss k).size ≤ maxLen) (hrow : StrRow w.heap.size w ao len ss)
    (wat : (Lit.int .i64 at_).wf = true) (wnow : (Lit.int .i64 now).wf = true) :
    Calls Yba.prog 3 #[.string node, .slice ao len cap, .bool present, .int .i64 at_, .int .i64 now, .int .i64 sil, .int .i64 st] w fun e w' => e = .returned (.bool true) ∧ Below w.heap.size w w' := by
  unfold maxLen at hm
  by_cases hl : len ≤ 1024
  · have HB := Hid.out (p := Hid _) (build_any node ao len cap ss present at_ now sil st 0 w hnl hl hss hrow wat (by decide))
    have HK := Hid.out (p := Hid _) (fun (w1 : World) G => check_any w.heap.size node ao len cap ss present (decide (sil < wrap64 (now - at_))) now sil st 0 at_ (pausedD ss len node present at_) (driftD node 0) w w1 hnl hl hss hrow G (paused_node ss len node present at_)
      (fun h => by subst h; exact paused_at ss len node at_ _) (fun j hj hne => paused_other ss len node present at_ j hj hne) (drift_at node 0) (by rw [clk_zero wnow]))
    clear hrow hss
    go_enter Yba.func3, Yba.ntmps3
    go_wp2_with fail
    refine Calls.mono HB.out ?_
    rintro e w1 ⟨rfl, G⟩
    go_wp2_with fail
    refine Calls.mono (HK.out w1 G) ?_
    rintro e w2 ⟨rfl, hb⟩
    go_wp2_with fail
    go_ret
    exact ⟨rfl, hb⟩
  · go_enter Yba.func3, Yba.ntmps3
    go_wp2
    go_ret
    exact ⟨rfl, Below.refl _ _⟩

set_option maxRecDepth 100000 in
set_option maxHeartbeats 400000 in
theorem walk_drift (node : ByteArray) (ao : Option Addr) (len cap : Nat) (ss : Nat → ByteArray) (present : Bool) (at_ now sil st drift : Int) (w : World) (hnl : node.size ≤ maxLen) (hm : len ≤ maxLen) (hss : ∀ k, (ss k).size ≤ maxLen) (hrow : StrRow w.heap.size w ao len ss)
    (wat : (Lit.int .i64 at_).wf = true) (wdr : (Lit.int .i64 drift).wf = true) :
    Calls Yba.prog 4 #[.string node, .slice ao len cap, .bool present, .int .i64 at_, .int .i64 now, .int .i64 sil, .int .i64 st, .int .i64 drift] w fun e w' => e = .returned (.bool true) ∧ Below w.heap.size w w' := by
  unfold maxLen at hm
  by_cases hl : len ≤ 1024
  · have HB := Hid.out (p := Hid _) (build_any node ao len cap ss present at_ now sil st drift w hnl hl hss hrow wat wdr)
    have HK := Hid.out (p := Hid _) (fun (w1 : World) G => check_any w.heap.size node ao len cap ss present (decide (sil < wrap64 (clk now drift - at_))) now sil st drift at_ (pausedD ss len node present at_) (driftD node drift) w w1 hnl hl hss hrow G (paused_node ss len node present at_)
      (fun h => by subst h; exact paused_at ss len node at_ _) (fun j hj hne => paused_other ss len node present at_ j hj hne) (drift_at node drift) rfl)
    clear hrow hss
    go_enter Yba.func4, Yba.ntmps4
    go_wp2_with fail
    refine Calls.mono HB.out ?_
    rintro e w1 ⟨rfl, G⟩
    go_wp2_with fail
    refine Calls.mono (Clock_any (w.heap.size + 2) (w.heap.size + 1) 1 node now drift (driftD node drift) w1 G.c13 G.c35 G.od hnl (drift_at node drift)) ?_
    rintro e w2 ⟨rfl, rfl⟩
    go_wp2_with fail
    refine Calls.mono (HK.out _ G) ?_
    rintro e w3 ⟨rfl, hb⟩
    go_wp2_with fail
    go_ret
    exact ⟨rfl, hb⟩
  · go_enter Yba.func4, Yba.ntmps4
    go_wp2
    go_ret
    exact ⟨rfl, Below.refl _ _⟩

end Go.Proofs.Ybulkasgc
