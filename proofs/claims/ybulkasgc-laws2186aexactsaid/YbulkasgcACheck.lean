/-
  'zzs2186acheck': its contract. Our own work over the given program.
-/
import Derived.Test.YbulkasgcABuild
import Derived.Deep.OwnRows
namespace Go.Proofs.Ybulkasgc
open Go.RowKit Go.WideMaps Go.Maps

theorem info25 : (Yba.prog.info? 25).map (fun i => (i.zero, i.size, i.bytes)) = some (some (.int .i64 0), 1, 8) := by kernel_rfl

/-- The number that an element of 'pausedAt' reads as. -/
def valOf : DataW Unit → Int
  | .lit (.int _ c) => c
  | _ => 0

/-- What is read of the Group behind 'endPause'. -/
structure AFin (N : Nat) (w0 w : World) (st : Int) (D : DataW Unit) : Prop where
  c41 : w.cell? ⟨N + 2, 41, none⟩ = some (.int .i64 0)
  c42 : w.cell? ⟨N + 2, 42, none⟩ = some (.int .i64 0)
  c43 : w.cell? ⟨N + 2, 43, none⟩ = some (.int .i64 st)
  c44 : w.cell? ⟨N + 2, 44, none⟩ = some (.int .i64 0)
  c48 : w.cell? ⟨N + 2, 48, none⟩ = some (.map (some N))
  op : w.ownsMap Yba.prog 9 (plainElem Yba.prog 25) N 1025 D
  below : Below N w0 w
  size : N + 2 < w.heap.size

section
variable {N : Nat} {w0 w w1 : World} {now sil st st' : Int} {n nd : Nat} {Dp Dd D : DataW Unit}

theorem ASt.ended (h : ASt N w0 w now sil st 1025 nd Dp Dd) (he : Ended N (N + 2) N 1025 w w1 st' D) : AFin N w0 w1 st' D :=
  ⟨(he.cells _ (by omega)).trans h.c41, (he.cells _ (by omega)).trans h.c42, he.c43, (he.cells _ (by omega)).trans h.c44, (he.cells _ (by omega)).trans h.c48, he.owns, h.below.trans he.below, Nat.lt_of_lt_of_le h.size he.below.size⟩

/-- A store into another block of the call's own. -/
theorem ASt.setOther (h : ASt N w0 w now sil st n nd Dp Dd) {V : Nat} (hV : N + 2 < V) (k : Nat) (v : Value) : ASt N w0 (w.setCell ⟨V, k, none⟩ v) now sil st n nd Dp Dd := by
  have e : ∀ o, (w.setCell ⟨V, k, none⟩ v).cell? ⟨N + 2, o, none⟩ = w.cell? ⟨N + 2, o, none⟩ := fun o => World.cell?_setCell_other _ _ _ _ (fun e => by have := congrArg Addr.block e; simp at this; omega)
  exact ⟨(e _).trans h.c1, (e _).trans h.c13, (e _).trans h.c35, (e _).trans h.c41, (e _).trans h.c42, (e _).trans h.c43, (e _).trans h.c44, (e _).trans h.c48, fun o => (World.frozen?_setCell _ _ _ _).trans (h.marks o),
    h.op.setCell (by simp; omega) _, h.od.setCell (by simp; omega) _, h.below.setCell (by simp; omega) _, by simpa [World.setCell] using h.size⟩

theorem ASt.alloc (h : ASt N w0 w now sil st n nd Dp Dd) (o : Obj) : ASt N w0 (w.alloc o) now sil st n nd Dp Dd := by
  obtain ⟨g1, g2⟩ := gcell (World.grownBy_alloc w o none) h.size (by simp)
  exact ⟨(g1 _).trans h.c1, (g1 _).trans h.c13, (g1 _).trans h.c35, (g1 _).trans h.c41, (g1 _).trans h.c42, (g1 _).trans h.c43, (g1 _).trans h.c44, (g1 _).trans h.c48, fun o => (g2 o).trans (h.marks o),
    h.op.alloc _, h.od.alloc _, h.below.alloc (by have := h.size; omega) _, by have := h.size; simp; omega⟩
end

set_option maxRecDepth 100000 in
set_option maxHeartbeats 1000000 in
theorem check_any (N : Nat) (node : ByteArray) (ao : Option Addr) (len cap : Nat) (ss : Nat → ByteArray) (present fire : Bool) (now sil st ppm at_ : Int) (Dp Dd : DataW Unit) (w0 w : World) (hnl : node.size ≤ maxLen) (hlen : len ≤ 1024) (hss : ∀ k, (ss k).size ≤ maxLen)
    (hrow : StrRow N w0 ao len ss) (G : ASt N w0 w now sil st 1025 1 Dp Dd) (hnode : has Dp (kl node) = present) (hat0 : present = true → Dp.atKey (kl node) (.lit (.int .i64 0)) = .lit (.int .i64 at_))
    (hoth : ∀ j, j < len → ss j ≠ node → has Dp (kl (ss j)) = true) (hdr : Dd.atKey (kl node) (.lit (.int .i64 0)) = .lit (.int .i64 ppm)) (hf : fire = decide (sil < wrap64 (clk now ppm - at_))) :
    Calls Yba.prog 7 #[.pointer (some ⟨N + 2, 0, none⟩), .string node, .slice ao len cap, .bool present, .int .i64 st, .bool fire] w fun e w' => e = .returned (.bool true) ∧ Below N w0 w' := by
  have HR : Hid (StrRow N w0 ao len ss) := hrow
  have hmk := run_make_row' (P := Yba.prog) 73 25 (.int .i64 0) 8 Yba.underlying73 info25 rfl .i64 .i64 len (by omega) (by omega)
  have hNV : N + 2 < w.heap.size := G.size
  have HN := Hid.out (p := Hid _) hnode
  have HA := Hid.out (p := Hid _) hat0
  have HO := Hid.out (p := Hid _) hoth
  have HD := Hid.out (p := Hid _) hdr
  have HF := Hid.out (p := Hid _) hf
  clear hrow hnode hat0 hoth hdr hf
  go_enter Yba.func7, Yba.ntmps7
  go_wp2_with fail
  have G1 := G.alloc (.cells (madeCells #[.int .i64 0] len) 25)
  have hr1 := World.rowIs_made w (.int .i64 0) len 25
  clear G hmk
  go_loopw [31] (fun i wr => ∃ k : Nat, k ≤ len ∧ i = .int .i64 k ∧ ASt N w0 wr now sil st 1025 1 Dp Dd ∧ wr.rowIs w.heap.size 25 len (fun j => if j < k then .int .i64 (valOf (Dp.atKey (kl (ss j)) (.lit (.int .i64 0)))) else .int .i64 0)) (fun i _ => len - (intOf i).toNat)
  case atStart => exact ⟨0, Nat.zero_le _, rfl, G1, hr1.congr (fun i _ => by simp)⟩
  case round =>
    obtain ⟨k, hk, rfl, G, hr⟩ := hrel
    clear G1 hr1
    have c48 := G.c48
    by_cases hlt : k < len
    · obtain ⟨b, off, rfl, hb, hcl⟩ := HR.out (by omega)
      have hcx : wr.cell? ⟨b, off + k, none⟩ = some (.string (ss k)) := (G.below.cell (p := ⟨b, off + k, none⟩) hb).trans (hcl k hlt)
      have hcv : wr.cell? ⟨w.heap.size, k, none⟩ = some (.int .i64 0) := by simpa using hr.cell hlt
      have hfv := hr.frozen k
      clear hcl HR
      go_wp2_with (at_lookup; refine wpList_lookup_own_int _ rfl (.tmp 41) (.tmp 42) 35 rfl 9 25 .i64 law9 Yba.underlying35 Yba.underlying25 (zero25 _) N 1025 Dp rfl G.op _ _ rfl (key9 (hss k)) ?_; intro c hat hwc)
      go_roundw
      case rel =>
        refine ⟨k + 1, by omega, by go_num, G.setOther hNV _ _, (hr.set k _).congr (fun i _ => ?_)⟩
        by_cases hik : i = k
        · subst hik
          simp [hat, valOf]
        · by_cases h2 : i < k
          · rw [if_neg hik, if_pos h2, if_pos (by omega)]
          · rw [if_neg hik, if_neg h2, if_neg (by omega)]
      case measure => simp [intOf]; omega
    · obtain rfl : k = len := by omega
      have hr1 := hr.congr (g := fun j => .int .i64 (valOf (Dp.atKey (kl (ss j)) (.lit (.int .i64 0))))) (fun i hi => by rw [if_pos hi])
      clear hr hlt
      go_upto_region 8 with (at_len; refine wpList_len_own _ rfl (.tmp 49) 35 rfl 9 25 Yba.underlying35 _ N 1025 Dp rfl G.op ?_)
      obtain ⟨st', hst⟩ : ∃ st' : Int, st' = if (present && fire) = true then wrap64 (st + 1) else st := ⟨_, rfl⟩
      have HT := Hid.out (p := Hid _) (endPause_any N (N + 2) N (N + 1) 1025 1 node present fire now ppm sil st at_ Dp Dd wr G.c48 G.c35 G.c13 G.c1 G.c43 (G.marks _) G.op G.od hnl HN.out HA.out HD.out (by omega) (by omega) (by omega) (by omega) HF.out st' hst)
      have HST := Hid.out (p := Hid _) hst
      have hszl := G.op.size_le
      have hszN := size_del (k := kl node) (G.op.tidy law9)
      rw [HN.out] at hszN
      have HSZ := Hid.out (p := Hid _) hszN
      clear hst hszN c48
      go_cut [] (fun wx => AFin N w0 wx st' (Dp.del (kl node)) ∧ wx.rowIs w.heap.size 25 k (fun j => .int .i64 (valOf (Dp.atKey (kl (ss j)) (.lit (.int .i64 0))))))
      case first =>
        go_wp2_with fail
        refine Calls.mono HT.out ?_
        rintro e w2 ⟨rfl, he⟩
        go_wp2_with fail
        go_meet
        exact ⟨G.ended he, hr1.of_block (he.blocks _ hr1.lt (by omega) (by omega))⟩
      case rest =>
      obtain ⟨F, hr2⟩ := hcut
      clear HT G hr1 HF HD HA
      have hD1 : has (Dp.del (kl node)) (kl node) = false := has_del_same
      have HD2 : Hid (∀ j, j < k → ss j ≠ node → has (Dp.del (kl node)) (kl (ss j)) = true ∧ valOf ((Dp.del (kl node)).atKey (kl (ss j)) (.lit (.int .i64 0))) = valOf (Dp.atKey (kl (ss j)) (.lit (.int .i64 0)))) :=
        fun j hj hne => ⟨(has_del_other (kl_ne hne)).trans (HO.out j hj hne), by rw [atKey_del_other (kl_ne hne)]⟩
      obtain ⟨vv, hvv⟩ : ∃ vv : Nat → Int, vv = fun j => valOf (Dp.atKey (kl (ss j)) (.lit (.int .i64 0))) := ⟨_, rfl⟩
      have hr3 : wc.rowIs w.heap.size 25 k (fun j => .int .i64 (vv j)) := by rw [hvv]; exact hr2
      have HD3 : Hid (∀ j, j < k → ss j ≠ node → has (Dp.del (kl node)) (kl (ss j)) = true ∧ valOf ((Dp.del (kl node)).atKey (kl (ss j)) (.lit (.int .i64 0))) = vv j) := by rw [hvv]; exact HD2
      obtain ⟨D, hD⟩ : ∃ D, D = Dp.del (kl node) := ⟨_, rfl⟩
      rw [← hD] at F hD1 HD3 HSZ
      clear hvv hr2 HD2 hD HO HN
      have c48 := F.c48
      go_upto_if 65 with (at_lookup; refine wpList_lookup_own_ok_int _ rfl (.tmp 58) (.tmp 59) 35 rfl 9 25 .i64 law9 Yba.underlying35 Yba.underlying25 (zero25 _) N 1025 D rfl F.op _ _ rfl (key9 hnl) ?_; intro c hat hwc)
      go_cut [19] (fun s19 wx => s19 = .int .i64 (size D) ∧ AFin N w0 wx st' D ∧ wx.rowIs w.heap.size 25 k (fun j => .int .i64 (vv j)))
      case first =>
        cases present
        · go_wp2
          go_meet
          have h1 := HSZ.out
          exact ⟨by simp at h1; rw [h1], F, hr3⟩
        · have h1 := HSZ.out
          simp at h1
          have h2 : 1 ≤ (size Dp : Int) := by omega
          have H1 := Hid.out (p := Hid _) h1
          clear h1
          go_wp2
          go_meet
          refine ⟨?_, F, hr3⟩
          have h1 := H1.out
          congr 1
          omega
      case rest =>
      clear F hr3 c48
      obtain ⟨rfl, F, hr⟩ := hcut
      have c48 := F.c48
      have c41 := F.c41
      have c42 := F.c42
      have c43 := F.c43
      have c44 := F.c44
      have sz := F.size
      go_wp2_with (at_len; refine wpList_len_own _ rfl (.tmp 71) 35 rfl 9 25 Yba.underlying35 _ N 1025 D rfl F.op ?_)
      go_loop [77] (fun i => ∃ j : Nat, j ≤ k ∧ i = .int .i64 j) (fun i => k - (intOf i).toNat)
      case atStart => exact ⟨0, Nat.zero_le _, rfl⟩
      case round =>
        obtain ⟨j, hj, rfl⟩ := hrel
        by_cases hlt : j < k
        · obtain ⟨b, off, rfl, hb, hcl⟩ := HR.out (by omega)
          have hcx : wc.cell? ⟨b, off + j, none⟩ = some (.string (ss j)) := (F.below.cell (p := ⟨b, off + j, none⟩) hb).trans (hcl j hlt)
          have hcv : wc.cell? ⟨w.heap.size, j, none⟩ = some (.int .i64 (vv j)) := hr.cell hlt
          clear hcl HR
          by_cases he : ss j = node
          · have hq : ((ss j).toList == node.toList) = true := by rw [he]; simp
            clear he
            go_wp2
            go_round
            case rel => exact ⟨j + 1, by omega, by go_num⟩
            case measure => simp [intOf]; omega
          · have hq : ((ss j).toList == node.toList) = false := toList_ne he
            obtain ⟨hh1, hh2⟩ := HD3.out j hlt he
            have HH2 := Hid.out (p := Hid _) hh2
            clear he hh2
            go_wp2_with (at_lookup; refine wpList_lookup_own_ok_int _ rfl (.tmp 89) (.tmp 90) 35 rfl 9 25 .i64 law9 Yba.underlying35 Yba.underlying25 (zero25 _) N 1025 D rfl F.op _ _ rfl (key9 (hss j)) ?_; intro c1 hat1 hwc1; have hcc : c1 = vv j := by (rw [← HH2.out, hat1]; rfl))
            go_round
            case rel => exact ⟨j + 1, by omega, by go_num⟩
            case measure => simp [intOf]; omega
        · clear HR
          cases present <;> cases fire
          · have hs : st' = st := by simpa using HST.out
            clear HST
            subst hs
            go_wp2
            go_ret
            exact ⟨rfl, F.below.alloc (by omega) _⟩
          · have hs : st' = st := by simpa using HST.out
            clear HST
            subst hs
            go_wp2
            go_ret
            exact ⟨rfl, F.below.alloc (by omega) _⟩
          · have hs : st' = st := by simpa using HST.out
            clear HST
            subst hs
            go_wp2
            go_ret
            exact ⟨rfl, F.below.alloc (by omega) _⟩
          · have hs : st' = wrap64 (st + 1) := by simpa using HST.out
            clear HST
            subst hs
            go_wp2
            go_ret
            exact ⟨rfl, F.below.alloc (by omega) _⟩

end Go.Proofs.Ybulkasgc
