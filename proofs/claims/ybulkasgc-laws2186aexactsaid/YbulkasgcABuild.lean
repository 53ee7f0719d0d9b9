/-
  'zzs2186abuild': its contract. Our own work over the given program.
-/
import Derived.Test.YbulkasgcAState
namespace Go.Proofs.Ybulkasgc
open Go.RowKit Go.WideMaps Go.Maps

/-- What is known of the slice of strings that came in. -/
def StrRow (N : Nat) (w : World) (ao : Option Addr) (len : Nat) (ss : Nat → ByteArray) : Prop :=
  0 < len → ∃ b off, ao = some ⟨b, off, none⟩ ∧ b < N ∧ ∀ k, k < len → w.cell? ⟨b, off + k, none⟩ = some (.string (ss k))

set_option maxRecDepth 100000 in
set_option maxHeartbeats 1000000 in
theorem build_any (node : ByteArray) (ao : Option Addr) (len cap : Nat) (ss : Nat → ByteArray) (present : Bool) (at_ now sil st drift : Int) (w : World) (hnl : node.size ≤ maxLen) (hlen : len ≤ 1024) (hss : ∀ k, (ss k).size ≤ maxLen) (hrow : StrRow w.heap.size w ao len ss)
    (wat : (Lit.int .i64 at_).wf = true) (wdr : (Lit.int .i64 drift).wf = true) :
    Calls Yba.prog 6 #[.string node, .slice ao len cap, .bool present, .int .i64 at_, .int .i64 now, .int .i64 sil, .int .i64 st, .int .i64 drift] w fun e w' =>
      e = .returned (.pointer (some ⟨w.heap.size + 2, 0, none⟩)) ∧ ASt w.heap.size w w' now sil st 1025 1 (pausedD ss len node present at_) (driftD node drift) := by
  have hmm := @run_makeMap Yba.prog
  have HR : Hid (StrRow w.heap.size w ao len ss) := hrow
  clear hrow
  go_enter Yba.func6, Yba.ntmps6
  go_upto_region 1 with fail
  go_cut [17] (fun s17 wx => s17 = .pointer (some ⟨w.heap.size + 2, 0, none⟩) ∧ ASt w.heap.size w wx now 0 0 0 0 (.map []) (.map []))
  case first =>
    go_wp2_with (refine wpList_build_run _ rfl 66 _ rfl _ rfl _ (build66A w.heap.size (w.heap.size + 1) now _) ?_)
    go_meet
    exact ⟨rfl, ast_start _ _⟩
  case rest =>
  obtain ⟨rfl, G⟩ := hcut
  clear hmm
  have c1 := G.c1
  have c43 := G.c43
  have m1 := G.marks 1
  have m43 := G.marks 43
  go_wp2_with fail
  have G1 := G.set2 sil st
  clear c1 c43 m1 m43 G
  go_loopw [37] (fun i wr => ∃ k : Nat, k ≤ len ∧ i = .int .i64 k ∧ ASt w.heap.size w wr now sil st k 0 (foldP ss k) (.map [])) (fun i _ => len - (intOf i).toNat)
  case atStart => exact ⟨0, Nat.zero_le _, rfl, G1⟩
  case round =>
    obtain ⟨k, hk, rfl, G⟩ := hrel
    clear G1
    have c48 := G.c48
    by_cases hlt : k < len
    · obtain ⟨b, off, rfl, hb, hcl⟩ := HR.out (by omega)
      have hcx : wr.cell? ⟨b, off + k, none⟩ = some (.string (ss k)) := (G.below.cell (p := ⟨b, off + k, none⟩) hb).trans (hcl k hlt)
      clear hcl HR
      go_wp2_with (at_mapUpdate; refine wpList_mapUpdate_own _ rfl _ _ _ 35 rfl 9 25 law9 Yba.underlying35 _ w.heap.size k _ rfl G.op (by unfold maxLen; omega) _ _ _ rfl rfl (key9 (hss k)) _ [] (plainElem_int Yba.underlying25 (WalkArith.wf_i64 (by omega))) ?_; intro w1 hown1 hgrow1)
      go_roundw
      case rel => exact ⟨k + 1, by omega, by go_num, G.put_paused hown1 hgrow1⟩
      case measure => simp [intOf]; omega
    · obtain rfl : k = len := by omega
      clear HR
      have G2 := G.mono (n' := 1024) (nd' := 0) hlen (Nat.le_refl _)
      clear c48 G
      go_upto_if 49 with fail
      have c48 := G2.c48
      go_cut [] (fun wx => ASt w.heap.size w wx now sil st 1025 0 (pausedD ss k node present at_) (.map []))
      case first =>
        cases present
        · go_wp2_with (at_delete; refine wpList_delete_own _ rfl (.tmp 59) (.tmp 60) 35 9 rfl 25 law9 Yba.underlying35 _ w.heap.size 1024 _ rfl G2.op _ _ rfl (key9 hnl) ?_; intro w1 hown1 hturn1)
          go_meet
          exact (G2.del_paused hown1 hturn1).mono (by omega) (Nat.le_refl _)
        · go_wp2_with (at_mapUpdate; refine wpList_mapUpdate_own _ rfl _ _ _ 35 rfl 9 25 law9 Yba.underlying35 _ w.heap.size 1024 _ rfl G2.op (by decide) _ _ _ rfl rfl (key9 hnl) _ [] (plainElem_int Yba.underlying25 wat) ?_; intro w1 hown1 hgrow1)
          go_meet
          exact G2.put_paused hown1 hgrow1
      case rest =>
      clear G2 c48
      rename ASt _ _ _ _ _ _ _ _ _ _ => G
      go_upto_if 62 with fail
      have c35 := G.c35
      go_cut [] (fun wx => ASt w.heap.size w wx now sil st 1025 1 (pausedD ss k node present at_) (driftD node drift))
      case first =>
        by_cases hz : drift = 0
        · subst hz
          go_wp2
          go_meet
          exact G.mono (Nat.le_refl _) (by omega)
        · have hq : (drift != 0) = true := by simpa using hz
          have HZ : Hid (¬ drift = 0) := hz
          clear hz
          go_wp2_with (at_mapUpdate; refine wpList_mapUpdate_own _ rfl _ _ _ 59 rfl 9 2 law9 Yba.underlying59 _ (w.heap.size + 1) 0 _ rfl G.od (by decide) _ _ _ rfl rfl (key9 hnl) _ [] (plainElem_int Yba.underlying2 wdr) ?_; intro w1 hown1 hgrow1)
          go_meet
          unfold driftD
          rw [if_neg HZ.out]
          exact G.put_drift hown1 hgrow1
      case rest =>
      clear G c35
      rename ASt _ _ _ _ _ _ _ _ _ _ => G
      go_wp2
      go_ret
      exact ⟨rfl, G⟩

end Go.Proofs.Ybulkasgc
