/-
  Parts for 'LawS2186AExact' and 'LawS2186ADrift': the callees 'clock', 'Clock', 'endPause'. Our own work over the given program.
-/
import Derived.Test.YbulkasgcBTook
namespace Go.Proofs.Ybulkasgc
open Go.RowKit Go.WideMaps Go.Maps

theorem zero2 (w : World) : (zeroValue 2).run Yba.prog w = .ok (.int .i64 0) w := by kernel_rfl

/-- What a clock that gains p parts per million shows at t, wrapping as int64 does. -/
def clk (t p : Int) : Int := wrap64 (wrap64 (t + wrap64 (wrap64 (t.tdiv 1000000) * p)) + wrap64 ((wrap64 (t.tmod 1000000 * p)).tdiv 1000000))

set_option maxRecDepth 100000 in
set_option maxHeartbeats 400000 in
theorem clock_any (B bd n : Nat) (node : ByteArray) (t ppm : Int) (D : DataW Unit) (w : World) (c35 : w.cell? ⟨B, 35, none⟩ = some (.map (some bd))) (hod : w.ownsMap Yba.prog 9 (plainElem Yba.prog 2) bd n D) (hnl : node.size ≤ maxLen)
    (hat : D.atKey (kl node) (.lit (.int .i64 0)) = .lit (.int .i64 ppm)) :
    Calls Yba.prog 12 #[.pointer (some ⟨B, 0, none⟩), .string node, .int .i64 t] w fun e w' => e = .returned (.int .i64 (clk t ppm)) ∧ w' = w := by
  obtain ⟨c, hrun, hc, _⟩ := hod.lookup_int law9 Yba.underlying59 Yba.underlying2 (zero2 _) (key9 hnl)
  obtain rfl : c = ppm := by
    rw [hat] at hc
    injection hc with h1
    injection h1 with _ h2
    exact h2.symm
  clear hat hod hc
  go_enter Yba.func12, Yba.ntmps12
  go_wp2
  go_ret
  exact ⟨rfl, rfl⟩

set_option maxRecDepth 100000 in
set_option maxHeartbeats 400000 in
theorem Clock_any (B bd n : Nat) (node : ByteArray) (t ppm : Int) (D : DataW Unit) (w : World) (c13 : w.cell? ⟨B, 13, none⟩ = some (.int .i64 t)) (c35 : w.cell? ⟨B, 35, none⟩ = some (.map (some bd))) (hod : w.ownsMap Yba.prog 9 (plainElem Yba.prog 2) bd n D) (hnl : node.size ≤ maxLen)
    (hat : D.atKey (kl node) (.lit (.int .i64 0)) = .lit (.int .i64 ppm)) :
    Calls Yba.prog 8 #[.pointer (some ⟨B, 0, none⟩), .string node] w fun e w' => e = .returned (.int .i64 (clk t ppm)) ∧ w' = w := by
  have HC : Hid (Calls Yba.prog 12 #[.pointer (some ⟨B, 0, none⟩), .string node, .int .i64 t] w fun e w' => e = .returned (.int .i64 (clk t ppm)) ∧ w' = w) := clock_any B bd n node t ppm D w c35 hod hnl hat
  clear hat hod c35 hnl
  go_enter Yba.func8, Yba.ntmps8
  go_wp2_with fail
  refine Calls.mono HC.out ?_
  rintro e w' ⟨rfl, rfl⟩
  go_wp2_with fail
  go_ret
  exact ⟨rfl, rfl⟩

/-- What 'endPause' leaves: one counter turned, the node struck from 'pausedAt', all else of the block as it was, nothing below N turned. -/
structure Ended (N B bp n : Nat) (w w' : World) (st : Int) (D : DataW Unit) : Prop where
  c43 : w'.cell? ⟨B, 43, none⟩ = some (.int .i64 st)
  cells : ∀ o, o ≠ 43 → w'.cell? ⟨B, o, none⟩ = w.cell? ⟨B, o, none⟩
  owns : w'.ownsMap Yba.prog 9 (plainElem Yba.prog 25) bp n D
  blocks : ∀ k, k < w.heap.size → k ≠ bp → k ≠ B → w'.heap[k]? = w.heap[k]?
  below : Below N w w'

theorem ended_one {N B bp n m : Nat} {w w1 : World} {st st' : Int} {D : DataW Unit} (hown : w1.ownsMap Yba.prog 9 (plainElem Yba.prog 25) bp n D) (ht : w.mapTurned w1 bp) (he : ∀ o, w1.cell? ⟨B, o, none⟩ = w.cell? ⟨B, o, none⟩) (d43 : w1.cell? ⟨B, 43, none⟩ = some (.int .i64 st)) (hpB : bp ≠ B) (hN : N ≤ bp) (hNB : N ≤ B) :
    Ended N B bp n w ((w1.drewN m).setCell ⟨B, 43, none⟩ (.int .i64 st')) st' D := by
  have hB := lt_of_cell ((he 43).symm.trans d43)
  refine ⟨World.cell?_setCell_same _ _ _ d43, fun o h => ?_, (ownsMap_drewN hown m).setCell hpB _, fun k hk h1 h2 => ?_, ?_⟩
  · exact (World.cell?_setCell_other _ _ _ _ (fun e => h (congrArg Addr.off e).symm)).trans (he o)
  · rw [Below.heap_setCell _ _ _ _ h2]
    exact ht.grown.block k hk (fun e => h1 (Option.some.inj e))
  · exact (((Below.refl _ _).grown ht.grown (by omega) (fun k hk => by cases hk; exact hN)).trans (below_N N w1 m)).setCell hNB _

theorem ended_none {N B bp n m : Nat} {w w1 : World} {st : Int} {D : DataW Unit} (hown : w1.ownsMap Yba.prog 9 (plainElem Yba.prog 25) bp n D) (ht : w.mapTurned w1 bp) (he : ∀ o, w1.cell? ⟨B, o, none⟩ = w.cell? ⟨B, o, none⟩) (d43 : w1.cell? ⟨B, 43, none⟩ = some (.int .i64 st)) (hN : N ≤ bp) (hNB : N ≤ B) :
    Ended N B bp n w (w1.drewN m) st D := by
  have hB := lt_of_cell ((he 43).symm.trans d43)
  exact ⟨d43, fun o _ => he o, ownsMap_drewN hown m, fun k hk h1 _ => ht.grown.block k hk (fun e => h1 (Option.some.inj e)), ((Below.refl _ _).grown ht.grown (by omega) (fun k hk => by cases hk; exact hN)).trans (below_N N w1 m)⟩

/-- The node is not there: nothing turns. -/
theorem endPause_not (B bp n : Nat) (node : ByteArray) (D : DataW Unit) (w : World) (c48 : w.cell? ⟨B, 48, none⟩ = some (.map (some bp)))
    (hop : w.ownsMap Yba.prog 9 (plainElem Yba.prog 25) bp n D) (hnl : node.size ≤ maxLen) (hh : Maps.has D (kl node) = false) :
    Calls Yba.prog 11 #[.pointer (some ⟨B, 0, none⟩), .string node] w fun e w' => e = .returned (.tuple #[]) ∧ w' = w := by
  go_enter Yba.func11, Yba.ntmps11
  go_wp2_with (at_lookup; refine wpList_lookup_own_ok_int _ rfl (.tmp 10) (.tmp 11) 35 rfl 9 25 .i64 law9 Yba.underlying35 Yba.underlying25 (zero25 _) bp n D rfl hop _ _ rfl (key9 hnl) ?_; intro c hat hwc)
  go_end0
  exact ⟨rfl, rfl⟩

set_option maxRecDepth 100000 in
set_option maxHeartbeats 400000 in
theorem endPause_yes (N B bp bd n nd : Nat) (node : ByteArray) (now ppm sil st at_ : Int) (D Dd : DataW Unit) (w : World) (c48 : w.cell? ⟨B, 48, none⟩ = some (.map (some bp))) (c35 : w.cell? ⟨B, 35, none⟩ = some (.map (some bd)))
    (c13 : w.cell? ⟨B, 13, none⟩ = some (.int .i64 now)) (c1 : w.cell? ⟨B, 1, none⟩ = some (.int .i64 sil)) (c43 : w.cell? ⟨B, 43, none⟩ = some (.int .i64 st)) (f43 : w.frozen? ⟨B, 43, none⟩ = false)
    (hop : w.ownsMap Yba.prog 9 (plainElem Yba.prog 25) bp n D) (hod : w.ownsMap Yba.prog 9 (plainElem Yba.prog 2) bd nd Dd) (hnl : node.size ≤ maxLen) (hh : Maps.has D (kl node) = true)
    (hat0 : D.atKey (kl node) (.lit (.int .i64 0)) = .lit (.int .i64 at_)) (hdr : Dd.atKey (kl node) (.lit (.int .i64 0)) = .lit (.int .i64 ppm)) (hpB : bp ≠ B) (hpd : bp ≠ bd) (hN : N ≤ bp) (hNB : N ≤ B) (st' : Int) (hst : st' = if sil < wrap64 (clk now ppm - at_) then wrap64 (st + 1) else st) :
    Calls Yba.prog 11 #[.pointer (some ⟨B, 0, none⟩), .string node] w fun e w' => e = .returned (.tuple #[]) ∧ Ended N B bp n w w' st' (D.del (kl node)) := by
  have HST : Hid (st' = if sil < wrap64 (clk now ppm - at_) then wrap64 (st + 1) else st) := hst
  clear hst
  have HA : Hid (D.atKey (kl node) (.lit (.int .i64 0)) = .lit (.int .i64 at_)) := hat0
  have hB := lt_of_cell c48
  clear hat0
  go_enter Yba.func11, Yba.ntmps11
  go_wp2_with (first
    | (at_lookup; refine wpList_lookup_own_ok_int _ rfl (.tmp 10) (.tmp 11) 35 rfl 9 25 .i64 law9 Yba.underlying35 Yba.underlying25 (zero25 _) bp n D rfl hop _ _ rfl (key9 hnl) ?_; intro c hat hwc)
    | (at_delete; refine wpList_delete_own _ rfl (.tmp 19) (.tmp 20) 35 9 rfl 25 law9 Yba.underlying35 _ bp n D rfl hop _ _ rfl (key9 hnl) ?_; intro w1 hown1 hturn1))
  obtain ⟨g1, g2⟩ := gcell hturn1.grown hB (fun e => hpB (Option.some.inj e).symm)
  have d1 := (g1 1).trans c1
  have d43 := (g1 43).trans c43
  have e43 := (g2 43).trans f43
  have HC : Hid (∀ m, Calls Yba.prog 8 #[.pointer (some ⟨B, 0, none⟩), .string node] (w1.drewN m) fun e w' => e = .returned (.int .i64 (clk now ppm)) ∧ w' = w1.drewN m) :=
    fun m => Clock_any B bd nd node now ppm Dd (w1.drewN m) ((g1 13).trans c13) ((g1 35).trans c35) (ownsMap_drewN (hod.kept hturn1.grown (fun e => hpd (Option.some.inj e).symm)) m) hnl hdr
  have hc : c = at_ := by
    have h := HA.out.symm.trans hat
    injection h with h1
    injection h1 with _ h2
    exact h2.symm
  have HE : Hid (∀ o, w1.cell? ⟨B, o, none⟩ = w.cell? ⟨B, o, none⟩) := g1
  clear g1 g2 c1 c13 c35 c43 f43 c48 hdr hod hop hat HA hh
  subst hc
  go_frame
  by_cases ht : sil < wrap64 (clk now ppm - c)
  · go_quiet ((go_at_call 8; exact Calls.quiet_of_same (HC.out _)))
    go_wp2
    go_end0
    rw [HST.out, if_pos ht]
    exact ⟨rfl, ended_one hown1 hturn1 HE.out d43 hpB hN hNB⟩
  · have hd : decide (sil < wrap64 (clk now ppm - c)) = false := by simpa using ht
    go_quiet ((go_at_call 8; exact Calls.quiet_of_same (HC.out _)))
    go_wp2
    go_end0
    rw [HST.out, if_neg (by omega)]
    exact ⟨rfl, ended_none hown1 hturn1 HE.out d43 hN hNB⟩
/-- '(*Group).endPause', whether or not the node is there. -/
theorem endPause_any (N B bp bd n nd : Nat) (node : ByteArray) (present fire : Bool) (now ppm sil st at_ : Int) (D Dd : DataW Unit) (w : World) (c48 : w.cell? ⟨B, 48, none⟩ = some (.map (some bp))) (c35 : w.cell? ⟨B, 35, none⟩ = some (.map (some bd)))
    (c13 : w.cell? ⟨B, 13, none⟩ = some (.int .i64 now)) (c1 : w.cell? ⟨B, 1, none⟩ = some (.int .i64 sil)) (c43 : w.cell? ⟨B, 43, none⟩ = some (.int .i64 st)) (f43 : w.frozen? ⟨B, 43, none⟩ = false)
    (hop : w.ownsMap Yba.prog 9 (plainElem Yba.prog 25) bp n D) (hod : w.ownsMap Yba.prog 9 (plainElem Yba.prog 2) bd nd Dd) (hnl : node.size ≤ maxLen) (hh : Maps.has D (kl node) = present)
    (hat0 : present = true → D.atKey (kl node) (.lit (.int .i64 0)) = .lit (.int .i64 at_)) (hdr : Dd.atKey (kl node) (.lit (.int .i64 0)) = .lit (.int .i64 ppm)) (hpB : bp ≠ B) (hpd : bp ≠ bd) (hN : N ≤ bp) (hNB : N ≤ B)
    (hf : fire = decide (sil < wrap64 (clk now ppm - at_))) (st' : Int) (hst : st' = if (present && fire) = true then wrap64 (st + 1) else st) :
    Calls Yba.prog 11 #[.pointer (some ⟨B, 0, none⟩), .string node] w fun e w' => e = .returned (.tuple #[]) ∧ Ended N B bp n w w' st' (D.del (kl node)) := by
  cases present
  · refine (endPause_not B bp n node D w c48 hop hnl hh).mono ?_
    rintro e w' ⟨rfl, rfl⟩
    rw [del_of_not_has hh]
    obtain rfl : st' = st := by simpa using hst
    exact ⟨rfl, c43, fun _ _ => rfl, hop, fun _ _ _ _ => rfl, Below.refl _ _⟩
  · refine endPause_yes N B bp bd n nd node now ppm sil st at_ D Dd w c48 c35 c13 c1 c43 f43 hop hod hnl hh (hat0 rfl) hdr hpB hpd hN hNB st' ?_
    rw [hst, hf]
    simp

end Go.Proofs.Ybulkasgc
