/-
  '(*Group).tookOver': its contract, over facts on the world (cells of the Group's block, the two maps). Our own work over the given program.
-/
import Derived.Test.YbulkasgcBParts
namespace Go.Proofs.Ybulkasgc
open Go.RowKit Go.WideMaps Go.Maps

/-- An 'engine.NodeState' that holds nothing but its RoleSequence. -/
abbrev nsVal (q : Int) : Value := .agg #[.string ⟨#[]⟩, .int .u64 q, .int .i64 0, .int .i64 0, .int .i64 0, .int .i64 0]

/-- How such a NodeState reads here: as its RoleSequence. -/
def nsElem {H : Type} : Value → Option (DataW H × List MemPlace)
  | .agg cs => match cs.toList with
    | [.string r, .int .u64 q, .int .i64 a, .int .i64 b, .int .i64 c, .int .i64 d] => if r.data = #[] ∧ a = 0 ∧ b = 0 ∧ c = 0 ∧ d = 0 then some (.lit (.int .u64 q), []) else none
    | _ => none
  | _ => none

theorem nsElem_mk {H : Type} (q : Int) : nsElem (H := H) (nsVal q) = some (.lit (.int .u64 q), []) := by simp [nsElem]

theorem nsElem_inv {H : Type} {v : Value} {z : DataW H × List MemPlace} (h : nsElem v = some z) : ∃ q, v = nsVal q ∧ z = (.lit (.int .u64 q), []) := by
  unfold nsElem at h
  split at h
  · rename_i cs
    split at h
    · rename_i r q a b c d he
      split at h
      · rename_i hz
        obtain ⟨h0, rfl, rfl, rfl, rfl⟩ := hz
        refine ⟨q, ?_, by cases h; rfl⟩
        have hr : r = ⟨#[]⟩ := by cases r; simp_all
        subst hr
        congr 1
        exact Array.toList_inj.1 he
      · cases h
    · cases h
  · cases h

theorem law9 : Keyed Yba.prog 9 := string_keyed Yba.underlying9
theorem zero69 (w : World) : (zeroValue 69).run Yba.prog w = .ok (nsVal 0) w := by kernel_rfl
theorem zero25 (w : World) : (zeroValue 25).run Yba.prog w = .ok (.int .i64 0) w := by kernel_rfl
theorem field69 (q : Int) (w : World) : (Instr.field 69 (nsVal q) 1).run Yba.prog w = .ok (.int .u64 q) w := by kernel_rfl

/-- What a string reads as, as a key. -/
abbrev kl (s : ByteArray) : Lit := .string s.data.toList
theorem key9 {s : ByteArray} (h : s.size ≤ maxLen) : keyOf Yba.prog 9 (.string s) = some (kl s) := keyOf_string_mk Yba.underlying9 h

/-- What 'tookOver' leaves: two counters turned, the node struck from 'missed', all else of the block as it was, nothing below N turned. -/
structure Took (N B bm n : Nat) (w w' : World) (f s : Int) (D : DataW Unit) : Prop where
  c41 : w'.cell? ⟨B, 41, none⟩ = some (.int .i64 f)
  c42 : w'.cell? ⟨B, 42, none⟩ = some (.int .i64 s)
  cells : ∀ o, o ≠ 41 → o ≠ 42 → w'.cell? ⟨B, o, none⟩ = w.cell? ⟨B, o, none⟩
  marks : ∀ o, w'.frozen? ⟨B, o, none⟩ = w.frozen? ⟨B, o, none⟩
  owns : w'.ownsMap Yba.prog 9 (plainElem Yba.prog 25) bm n D
  below : Below N w w'

theorem look_ns {w : World} {bs ns : Nat} {Ds : DataW Unit} {p : ByteArray} {ps : Int} (hos : w.ownsMap Yba.prog 9 nsElem bs ns Ds) (hpl : p.size ≤ maxLen) (hps : Ds.atKey (kl p) (.lit (.int .u64 0)) = .lit (.int .u64 ps)) :
    (Instr.lookup 34 (.map (some bs)) (.string p) false).run Yba.prog w = .ok (nsVal ps) w := by
  obtain ⟨v, zs, hrun, hv⟩ := hos.lookup law9 Yba.underlying34 (zero69 _) (nsElem_mk 0) (key9 hpl)
  obtain ⟨q, rfl, hz⟩ := nsElem_inv hv
  rw [hps] at hz
  simp at hz
  rw [hrun, hz.1]

theorem ownsMap_drewN {H : Type} {P : Program} {k : TypeId} {R : Value → Option (DataW H × List MemPlace)} {w : World} {b n : Nat} {D : DataW H} (h : w.ownsMap P k R b n D) : ∀ m, (w.drewN m).ownsMap P k R b n D
  | 0 => h
  | m + 1 => (ownsMap_drewN h m).drew

theorem below_N (N : Nat) (w : World) : ∀ m, Below N w (w.drewN m)
  | 0 => Below.refl _ _
  | m + 1 => (below_N N w m).drew

theorem took_close {N B bm n : Nat} {w W w1 : World} {f s : Int} {D : DataW Unit} (ht : W.mapTurned w1 bm) (hown : w1.ownsMap Yba.prog 9 (plainElem Yba.prog 25) bm n D) (hbB : bm ≠ B) (hN : N ≤ bm) (hB : B < W.heap.size) (hNW : N ≤ W.heap.size)
    (c41 : W.cell? ⟨B, 41, none⟩ = some (.int .i64 f)) (c42 : W.cell? ⟨B, 42, none⟩ = some (.int .i64 s)) (cells : ∀ o, o ≠ 41 → o ≠ 42 → W.cell? ⟨B, o, none⟩ = w.cell? ⟨B, o, none⟩)
    (marks : ∀ o, W.frozen? ⟨B, o, none⟩ = w.frozen? ⟨B, o, none⟩) (below : Below N w W) : Took N B bm n w w1 f s D := by
  obtain ⟨g1, g2⟩ := gcell ht.grown hB (fun e => hbB (Option.some.inj e).symm)
  exact ⟨(g1 41).trans c41, (g1 42).trans c42, fun o h1 h2 => (g1 o).trans (cells o h1 h2), fun o => (g2 o).trans (marks o), hown, below.grown ht.grown hNW (fun k hk => by cases hk; exact hN)⟩

theorem lt_of_cell {w : World} {B o : Nat} {v : Value} (h : w.cell? ⟨B, o, none⟩ = some v) : B < w.heap.size := by
  apply Classical.byContradiction
  intro hn
  simp [World.cell?, Array.getElem?_eq_none (Nat.le_of_not_lt hn)] at h


theorem took_one {N B bm n m : Nat} {w w1 : World} {f f' s : Int} {D : DataW Unit} (ht : ((w.drewN m).setCell ⟨B, 41, none⟩ (.int .i64 f')).mapTurned w1 bm) (hown : w1.ownsMap Yba.prog 9 (plainElem Yba.prog 25) bm n D) (hbB : bm ≠ B) (hN : N ≤ bm) (hNB : N ≤ B)
    (c41 : w.cell? ⟨B, 41, none⟩ = some (.int .i64 f)) (c42 : w.cell? ⟨B, 42, none⟩ = some (.int .i64 s)) : Took N B bm n w w1 f' s D := by
  have hB := lt_of_cell c41
  refine took_close ht hown hbB hN (by simpa [World.setCell] using hB) (by simp [World.setCell]; omega) (World.cell?_setCell_same _ _ _ c41) ?_ ?_ ?_ ((below_N N w m).setCell hNB _)
  · rw [World.cell?_setCell_other _ _ _ _ (by simp)]; exact c42
  · intro o h1 _
    rw [World.cell?_setCell_other _ _ _ _ (by simp <;> omega)]; rfl
  · intro o
    rw [World.frozen?_setCell]; rfl

theorem took_two {N B bm n m : Nat} {w w1 : World} {f f' s s' : Int} {D : DataW Unit} (ht : (((w.drewN m).setCell ⟨B, 41, none⟩ (.int .i64 f')).setCell ⟨B, 42, none⟩ (.int .i64 s')).mapTurned w1 bm) (hown : w1.ownsMap Yba.prog 9 (plainElem Yba.prog 25) bm n D) (hbB : bm ≠ B) (hN : N ≤ bm) (hNB : N ≤ B)
    (c41 : w.cell? ⟨B, 41, none⟩ = some (.int .i64 f)) (c42 : w.cell? ⟨B, 42, none⟩ = some (.int .i64 s)) : Took N B bm n w w1 f' s' D := by
  have hB := lt_of_cell c41
  refine took_close ht hown hbB hN (by simpa [World.setCell] using hB) (by simp [World.setCell]; omega) ?_ ?_ ?_ ?_ (((below_N N w m).setCell hNB _).setCell hNB _)
  · rw [World.cell?_setCell_other _ _ _ _ (by simp)]; exact World.cell?_setCell_same _ _ _ c41
  · exact World.cell?_setCell_same (u := .int .i64 s) _ _ _ (by rw [World.cell?_setCell_other _ _ _ _ (by simp)]; exact c42)
  · intro o h1 h2
    rw [World.cell?_setCell_other _ _ _ _ (by simp <;> omega), World.cell?_setCell_other _ _ _ _ (by simp <;> omega)]; rfl
  · intro o
    rw [World.frozen?_setCell, World.frozen?_setCell]; rfl

theorem took_none {N B bm n m : Nat} {w : World} {f s : Int} {D : DataW Unit} (hown : w.ownsMap Yba.prog 9 (plainElem Yba.prog 25) bm n D)
    (c41 : w.cell? ⟨B, 41, none⟩ = some (.int .i64 f)) (c42 : w.cell? ⟨B, 42, none⟩ = some (.int .i64 s)) : Took N B bm n w (w.drewN m) f s D :=
  ⟨c41, c42, fun _ _ _ => rfl, fun _ => rfl, ownsMap_drewN hown m, below_N N w m⟩


theorem partner_c (B : Nat) (A M node p : ByteArray) (w : World) (c10 : w.cell? ⟨B, 10, none⟩ = some (.string A)) (c11 : w.cell? ⟨B, 11, none⟩ = some (.string M)) (hp : p = if node = A then M else A) :
    Calls Yba.prog 13 #[.pointer (some ⟨B, 0, none⟩), .string node] w fun e w' => e = .returned (.string p) ∧ w' = w := by
  by_cases h : node = A
  · subst h
    rw [hp, if_pos rfl]
    exact partner_hit B node M w c10 c11
  · rw [hp, if_neg h]
    exact partner_miss B A node w c10 (toList_ne h)

set_option maxRecDepth 100000 in
set_option maxHeartbeats 400000 in
theorem took_not (B bs ns : Nat) (A M node p : ByteArray) (seq ps : Int) (Ds : DataW Unit) (w : World)
    (c10 : w.cell? ⟨B, 10, none⟩ = some (.string A)) (c11 : w.cell? ⟨B, 11, none⟩ = some (.string M)) (c21 : w.cell? ⟨B, 21, none⟩ = some (.map (some bs)))
    (hos : w.ownsMap Yba.prog 9 nsElem bs ns Ds) (hp : p = if node = A then M else A) (hpl : p.size ≤ maxLen)
    (hps : Ds.atKey (kl p) (.lit (.int .u64 0)) = .lit (.int .u64 ps)) (hgt : seq < ps) :
    Calls Yba.prog 10 #[.pointer (some ⟨B, 0, none⟩), .string node, .int .u64 seq] w fun e w' => e = .returned (.tuple #[]) ∧ ∃ n, w' = w.drewN n := by
  have HC : Hid (∀ n, Calls Yba.prog 13 #[.pointer (some ⟨B, 0, none⟩), .string node] (w.drewN n) fun e w' => e = .returned (.string p) ∧ w' = w.drewN n) :=
    fun n => partner_c B A M node p (w.drewN n) c10 c11 hp
  have hlook := fun n => look_ns (ownsMap_drewN hos n) hpl hps
  clear hp hps hos hpl c10 c11
  have hfld := field69
  go_enter Yba.func10, Yba.ntmps10
  go_wp2_with fail
  go_quiet ((go_at_call 13; exact Calls.quiet_of_same (HC.out _)))
  go_wp2
  refine bodyPost_ret (results_none rfl _ _ _) rfl ?_
  exact ⟨rfl, _, rfl⟩

set_option maxRecDepth 100000 in
set_option maxHeartbeats 400000 in
theorem took_yes (N B bs bm ns n : Nat) (A M node p : ByteArray) (seq ps f s : Int) (Ds Dm : DataW Unit) (w : World)
    (c10 : w.cell? ⟨B, 10, none⟩ = some (.string A)) (c11 : w.cell? ⟨B, 11, none⟩ = some (.string M)) (c21 : w.cell? ⟨B, 21, none⟩ = some (.map (some bs)))
    (c41 : w.cell? ⟨B, 41, none⟩ = some (.int .i64 f)) (c42 : w.cell? ⟨B, 42, none⟩ = some (.int .i64 s)) (c45 : w.cell? ⟨B, 45, none⟩ = some (.map (some bm)))
    (f41 : w.frozen? ⟨B, 41, none⟩ = false) (f42 : w.frozen? ⟨B, 42, none⟩ = false)
    (hos : w.ownsMap Yba.prog 9 nsElem bs ns Ds) (hom : w.ownsMap Yba.prog 9 (plainElem Yba.prog 25) bm n Dm) (hp : p = if node = A then M else A) (hpl : p.size ≤ maxLen) (hnl : node.size ≤ maxLen)
    (hps : Ds.atKey (kl p) (.lit (.int .u64 0)) = .lit (.int .u64 ps)) (hgt : ¬ seq < ps) (hbB : bm ≠ B) (hN : N ≤ bm) (hNB : N ≤ B) :
    Calls Yba.prog 10 #[.pointer (some ⟨B, 0, none⟩), .string node, .int .u64 seq] w fun e w' => e = .returned (.tuple #[]) ∧
      Took N B bm n w w' (wrap64 (f + 1)) (if Maps.has Dm (kl node) then wrap64 (s + 1) else s) (Dm.del (kl node)) := by
  have HC : Hid (∀ n, Calls Yba.prog 13 #[.pointer (some ⟨B, 0, none⟩), .string node] (w.drewN n) fun e w' => e = .returned (.string p) ∧ w' = w.drewN n) :=
    fun n => partner_c B A M node p (w.drewN n) c10 c11 hp
  have hlook := fun n => look_ns (ownsMap_drewN hos n) hpl hps
  clear hp hps hos hpl c10 c11
  have hfld := field69
  have H1 : Hid (∀ m u, ((w.drewN m).setCell ⟨B, 41, none⟩ u).ownsMap Yba.prog 9 (plainElem Yba.prog 25) bm n Dm) := fun m u => (ownsMap_drewN hom m).setCell hbB u
  have H2 : Hid (∀ m u v, (((w.drewN m).setCell ⟨B, 41, none⟩ u).setCell ⟨B, 42, none⟩ v).ownsMap Yba.prog 9 (plainElem Yba.prog 25) bm n Dm) := fun m u v => ((ownsMap_drewN hom m).setCell hbB u).setCell hbB v
  cases hh : Maps.has Dm (kl node)
  · go_enter Yba.func10, Yba.ntmps10
    go_wp2_with fail
    go_quiet ((go_at_call 13; exact Calls.quiet_of_same (HC.out _)))
    go_wp2_with (first
      | (at_lookup; refine wpList_lookup_own_ok_int _ rfl (.tmp 32) (.tmp 33) 35 rfl 9 25 .i64 law9 Yba.underlying35 Yba.underlying25 (zero25 _) bm n Dm rfl (H1.out _ _) _ _ rfl (key9 hnl) ?_; intro c hat hwc)
      | (at_delete; refine wpList_delete_own _ rfl (.tmp 50) (.tmp 51) 35 9 rfl 25 law9 Yba.underlying35 _ bm n Dm rfl (H1.out _ _) _ _ rfl (key9 hnl) ?_; intro w1 hown1 hturn1))
    go_end0
    exact ⟨rfl, took_one hturn1 hown1 hbB hN hNB c41 c42⟩
  · go_enter Yba.func10, Yba.ntmps10
    go_wp2_with fail
    go_quiet ((go_at_call 13; exact Calls.quiet_of_same (HC.out _)))
    go_wp2_with (first
      | (at_lookup; refine wpList_lookup_own_ok_int _ rfl (.tmp 32) (.tmp 33) 35 rfl 9 25 .i64 law9 Yba.underlying35 Yba.underlying25 (zero25 _) bm n Dm rfl (H1.out _ _) _ _ rfl (key9 hnl) ?_; intro c hat hwc)
      | (at_delete; refine wpList_delete_own _ rfl (.tmp 50) (.tmp 51) 35 9 rfl 25 law9 Yba.underlying35 _ bm n Dm rfl (H2.out _ _ _) _ _ rfl (key9 hnl) ?_; intro w1 hown1 hturn1))
    go_end0
    exact ⟨rfl, took_two hturn1 hown1 hbB hN hNB c41 c42⟩

/-- '(*Group).tookOver', whatever the two role sequences. -/
theorem took_any (N B bs bm ns n : Nat) (A M node p : ByteArray) (seq ps f s : Int) (Ds Dm : DataW Unit) (w : World)
    (c10 : w.cell? ⟨B, 10, none⟩ = some (.string A)) (c11 : w.cell? ⟨B, 11, none⟩ = some (.string M)) (c21 : w.cell? ⟨B, 21, none⟩ = some (.map (some bs)))
    (c41 : w.cell? ⟨B, 41, none⟩ = some (.int .i64 f)) (c42 : w.cell? ⟨B, 42, none⟩ = some (.int .i64 s)) (c45 : w.cell? ⟨B, 45, none⟩ = some (.map (some bm)))
    (f41 : w.frozen? ⟨B, 41, none⟩ = false) (f42 : w.frozen? ⟨B, 42, none⟩ = false)
    (hos : w.ownsMap Yba.prog 9 nsElem bs ns Ds) (hom : w.ownsMap Yba.prog 9 (plainElem Yba.prog 25) bm n Dm) (hp : p = if node = A then M else A) (hpl : p.size ≤ maxLen) (hnl : node.size ≤ maxLen)
    (hps : Ds.atKey (kl p) (.lit (.int .u64 0)) = .lit (.int .u64 ps)) (hbB : bm ≠ B) (hN : N ≤ bm) (hNB : N ≤ B) (le : Bool) (hle : le = decide (ps ≤ seq)) :
    Calls Yba.prog 10 #[.pointer (some ⟨B, 0, none⟩), .string node, .int .u64 seq] w fun e w' => e = .returned (.tuple #[]) ∧
      Took N B bm n w w' (if le then wrap64 (f + 1) else f) (if le then (if Maps.has Dm (kl node) then wrap64 (s + 1) else s) else s) (if le then Dm.del (kl node) else Dm) := by
  by_cases h : ps ≤ seq
  · obtain rfl : le = true := by rw [hle]; simpa using h
    exact took_yes N B bs bm ns n A M node p seq ps f s Ds Dm w c10 c11 c21 c41 c42 c45 f41 f42 hos hom hp hpl hnl hps (by omega) hbB hN hNB
  · obtain rfl : le = false := by rw [hle]; simpa using h
    refine (took_not B bs ns A M node p seq ps Ds w c10 c11 c21 hos hp hpl hps (by omega)).mono ?_
    rintro e w' ⟨rfl, m, rfl⟩
    exact ⟨rfl, took_none hom c41 c42⟩

end Go.Proofs.Ybulkasgc
