/-
  'LawS2186CScript': Settle, Demote, Standby, End, the node's name. Our own work over the given program.
-/
import Derived.Test.YbulkasgcFmtSInv
namespace Go.Proofs.YbulkasgcFmt
open Go.RowKit Go.WideMaps Go.Maps

/-- The receiver's cells. -/
theorem SBase.cells {N : Nat} {w0 w : World} {k : Nat} {v : Value} {rs : Nat → SRec} (h : SBase N w0 w k v rs) :
    w.cell? ⟨N + 5, 0, none⟩ = some (.map (some N)) ∧ w.cell? ⟨N + 5, 1, none⟩ = some (.map (some (N + 1))) ∧ w.cell? ⟨N + 5, 2, none⟩ = some (.map (some (N + 2))) ∧ w.cell? ⟨N + 5, 3, none⟩ = some (.map (some (N + 3))) ∧ w.cell? ⟨N + 5, 4, none⟩ = some (.map (some (N + 4))) ∧ w.cell? ⟨N + 5, 5, none⟩ = some v ∧ w.frozen? ⟨N + 5, 5, none⟩ = false := by
  have := h.hS
  simp [World.cell?, World.frozen?, this]

set_option maxRecDepth 100000 in
/-- 'Settle' finds nobody to settle. -/
theorem settle_any {N : Nat} {w0 w : World} {m k : Nat} {now : Int} {v : Value} {rs : Nat → SRec} (at_ : Int) (h : SInv N w0 w m now k v rs) :
    Calls Ybaf.prog 17 #[.pointer (some ⟨N + 5, 0, none⟩), .int .i64 at_] w fun e w' => e = .returned (.tuple #[]) ∧ w' = w := by
  obtain ⟨D, hD⟩ := h.m2
  obtain ⟨c0, c1, c2, c3, c4, c5, _⟩ := h.base.cells
  have hz : Maps.size D = 0 := by have := hD.size_le; omega
  go_enter Ybaf.func17, Ybaf.ntmps17
  go_wp2_with (at_len; refine wpList_len_own _ rfl (.tmp 10) 34 rfl 9 28 Ybaf.underlying34 _ (N + 2) 0 D rfl hD ?_)
  refine bodyPost_ret (results_none rfl _ _ _) rfl ?_
  exact ⟨rfl, rfl⟩

set_option maxRecDepth 100000 in
theorem standby_any {N : Nat} {w0 w : World} {m k : Nat} {now : Int} {v : Value} {rs : Nat → SRec} (node : ByteArray) (hnl : node.size ≤ maxLen) (h : SInv N w0 w m now k v rs) (hm : m ≤ 4096) (h0 : 0 ≤ now) (h1 : now ≤ 1000000) :
    Calls Ybaf.prog 12 #[.pointer (some ⟨N + 5, 0, none⟩), .string node, .int .i64 now] w fun e w' => e = .returned (.tuple #[]) ∧ SInv N w0 w' (m + 1) now k v rs := by
  have h' := h.later (Nat.le_succ m) (Int.le_refl _)
  obtain ⟨D, hD⟩ := h.m4
  obtain ⟨c0, c1, c2, c3, c4, c5, _⟩ := h.base.cells
  have hset := Hid.out (p := Hid _) (settle_any now h)
  go_enter Ybaf.func12, Ybaf.ntmps12
  go_wp2_with fail
  refine Calls.mono hset.out ?_
  rintro e w1 ⟨rfl, rfl⟩
  go_wp2_with (at_mapUpdate; refine wpList_mapUpdate_own _ rfl _ _ _ 34 rfl 9 28 law9 Ybaf.underlying34 _ (N + 4) m D rfl hD (by unfold maxLen; omega) _ _ _ rfl rfl (key9 hnl) _ [] (plainElem_int Ybaf.underlying28 (WalkArith.wf_i64 (by omega))) ?_; intro w2 hown2 hgrow2)
  go_end0
  exact ⟨rfl, h'.turn4 ⟨_, hown2⟩ hgrow2⟩

set_option maxRecDepth 100000 in
theorem end_any {N : Nat} {w0 w : World} {m k : Nat} {now : Int} {v : Value} {rs : Nat → SRec} (node : ByteArray) (hnl : node.size ≤ maxLen) (h : SInv N w0 w m now k v rs) :
    Calls Ybaf.prog 13 #[.pointer (some ⟨N + 5, 0, none⟩), .string node, .int .i64 now] w fun e w' => e = .returned (.tuple #[]) ∧ SInv N w0 w' m now k v rs := by
  have hset := Hid.out (p := Hid _) (settle_any now h)
  obtain ⟨c0, c1, c2, c3, c4, c5, _⟩ := h.base.cells
  go_enter Ybaf.func13, Ybaf.ntmps13
  go_wp2_with fail
  refine Calls.mono hset.out ?_
  rintro e w1 ⟨rfl, rfl⟩
  obtain ⟨D2, hD2⟩ := h.m2
  go_upto_region 2 with (at_delete; refine wpList_delete_own _ rfl (.tmp 12) (.tmp 13) 34 9 rfl 28 law9 Ybaf.underlying34 _ (N + 2) 0 D2 rfl hD2 _ _ rfl (key9 hnl) ?_; intro w2 hown2 hturn2)
  have h2 := h.turn2 ⟨_, hown2⟩ hturn2.grown
  obtain ⟨D0, hD0⟩ := h2.m0
  obtain ⟨c0, c1, c2, c3, c4, c5, _⟩ := h2.base.cells
  go_upto_region 3 with (at_delete; refine wpList_delete_own _ rfl (.tmp 17) (.tmp 18) 33 9 rfl 4 law9 Ybaf.underlying33 _ N m D0 rfl hD0 _ _ rfl (key9 hnl) ?_; intro w3 hown3 hturn3)
  have h3 := h2.turn0 ⟨_, hown3⟩ hturn3.grown
  obtain ⟨D1, hD1⟩ := h3.m1
  obtain ⟨c0, c1, c2, c3, c4, c5, _⟩ := h3.base.cells
  go_wp2_with (at_delete; refine wpList_delete_own _ rfl (.tmp 22) (.tmp 23) 33 9 rfl 4 law9 Ybaf.underlying33 _ (N + 1) m D1 rfl hD1 _ _ rfl (key9 hnl) ?_; intro w4 hown4 hturn4)
  go_end0
  exact ⟨rfl, h3.turn1 ⟨_, hown4⟩ hturn4.grown⟩

theorem plain_bool_inv {H : Type} {P : Program} {e : TypeId} (he : P.underlying e = some .bool) {v : Value} {z : DataW H × List MemPlace} (h : plainElem P e v = some z) : ∃ x, v = .bool x := by
  unfold plainElem at h
  rw [he] at h
  cases v <;> simp at h
  exact ⟨_, rfl⟩

theorem look_bool {w : World} {b m : Nat} {D : DataW Unit} {node : ByteArray} (h : MB w b m D) (hnl : node.size ≤ maxLen) : ∃ x : Bool, (Instr.lookup 33 (.map (some b)) (.string node) false).run Ybaf.prog w = .ok (.bool x) w := by
  obtain ⟨v, zs, hrun, hv⟩ := h.lookup law9 Ybaf.underlying33 (zero4 _) (plainElem_bool Ybaf.underlying4 false) (key9 hnl)
  obtain ⟨x, rfl⟩ := plain_bool_inv Ybaf.underlying4 hv
  exact ⟨x, hrun⟩

set_option maxRecDepth 100000 in
theorem demote_any {N : Nat} {w0 w : World} {m k : Nat} {now : Int} {v : Value} {rs : Nat → SRec} (node : ByteArray) (hnl : node.size ≤ maxLen) (h : SInv N w0 w m now k v rs) (hm : m ≤ 4096) (h0 : 0 ≤ now) (h1 : now ≤ 1000000) :
    Calls Ybaf.prog 11 #[.pointer (some ⟨N + 5, 0, none⟩), .string node, .int .i64 now] w fun e w' => e = .returned (.tuple #[]) ∧ SInv N w0 w' (m + 1) now k v rs := by
  have hset := Hid.out (p := Hid _) (settle_any now h)
  obtain ⟨c0, c1, c2, c3, c4, c5, _⟩ := h.base.cells
  go_enter Ybaf.func11, Ybaf.ntmps11
  go_wp2_with fail
  refine Calls.mono hset.out ?_
  rintro e w1 ⟨rfl, rfl⟩
  obtain ⟨D2, hD2⟩ := h.m2
  go_upto_region 2 with (at_delete; refine wpList_delete_own _ rfl (.tmp 12) (.tmp 13) 34 9 rfl 28 law9 Ybaf.underlying34 _ (N + 2) 0 D2 rfl hD2 _ _ rfl (key9 hnl) ?_; intro w2 hown2 hturn2)
  have h2 := h.turn2 ⟨_, hown2⟩ hturn2.grown
  obtain ⟨D0, hD0⟩ := h2.m0
  obtain ⟨c0, c1, c2, c3, c4, c5, _⟩ := h2.base.cells
  go_upto_region 3 with (at_delete; refine wpList_delete_own _ rfl (.tmp 17) (.tmp 18) 33 9 rfl 4 law9 Ybaf.underlying33 _ N m D0 rfl hD0 _ _ rfl (key9 hnl) ?_; intro w3 hown3 hturn3)
  have h3 := h2.turn0 ⟨_, hown3⟩ hturn3.grown
  obtain ⟨D1, hD1⟩ := h3.m1
  obtain ⟨c0, c1, c2, c3, c4, c5, _⟩ := h3.base.cells
  obtain ⟨x, hx⟩ := look_bool hD1 hnl
  cases x
  · go_wp2_with fail
    go_end0
    exact ⟨rfl, h3.later (Nat.le_succ m) (Int.le_refl _)⟩
  · go_upto_region 5 with (at_delete; refine wpList_delete_own _ rfl (.tmp 28) (.tmp 29) 33 9 rfl 4 law9 Ybaf.underlying33 _ (N + 1) m D1 rfl hD1 _ _ rfl (key9 hnl) ?_; intro w4 hown4 hturn4)
    have h4 := h3.turn1 ⟨_, hown4⟩ hturn4.grown
    obtain ⟨D3, hD3, hw3⟩ := h4.m3
    obtain ⟨c0, c1, c2, c3, c4, c5, _⟩ := h4.base.cells
    have h5 := h4.later (Nat.le_succ m) (Int.le_refl _)
    go_wp2_with (at_mapUpdate; refine wpList_mapUpdate_own _ rfl _ _ _ 34 rfl 9 28 law9 Ybaf.underlying34 _ (N + 3) m D3 rfl hD3 (by unfold maxLen; omega) _ _ _ rfl rfl (key9 hnl) _ [] (plainElem_int Ybaf.underlying28 (WalkArith.wf_i64 (by omega))) ?_; intro w6 hown6 hgrow6)
    go_end0
    exact ⟨rfl, h5.turn3 ⟨_, hown6, hw3.put hD3.isMap h0 (Int.le_refl _)⟩ hgrow6⟩
end Go.Proofs.YbulkasgcFmt
