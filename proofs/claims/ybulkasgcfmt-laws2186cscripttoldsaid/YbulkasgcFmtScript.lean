/-
  'LawS2186CScript': Promote, the node's name, the walk. Our own work over the given program.
-/
import Derived.Test.YbulkasgcFmtStart
namespace Go.Proofs.YbulkasgcFmt
open Go.RowKit Go.WideMaps Go.Maps

set_option maxRecDepth 100000 in
theorem promote_any {N : Nat} {w0 w : World} {m k : Nat} {now : Int} {v : Value} {rs : Nat → SRec} (node : ByteArray) (hnl : node.size ≤ maxLen) (h : SInv N w0 w m now k v rs) (hm : m ≤ 4095) (hk : k < 1024) (h0 : 0 ≤ now) (h1 : now ≤ 1000000) :
    Calls Ybaf.prog 10 #[.pointer (some ⟨N + 5, 0, none⟩), .string node, .int .i64 now] w fun e w' => e = .returned (.tuple #[]) ∧ Started N w0 w' (m + 1) now k := by
  have hset := Hid.out (p := Hid _) (settle_any now h)
  obtain ⟨c0, c1, c2, c3, c4, c5, _⟩ := h.base.cells
  go_enter Ybaf.func10, Ybaf.ntmps10
  go_wp2_with fail
  refine Calls.mono hset.out ?_
  rintro e w1 ⟨rfl, rfl⟩
  obtain ⟨D2, hD2⟩ := h.m2
  go_upto_region 2 with (at_delete; refine wpList_delete_own _ rfl (.tmp 12) (.tmp 13) 34 9 rfl 28 law9 Ybaf.underlying34 _ (N + 2) 0 D2 rfl hD2 _ _ rfl (key9 hnl) ?_; intro w2 hown2 hturn2)
  have h2 := h.turn2 ⟨_, hown2⟩ hturn2.grown
  obtain ⟨D0, hD0⟩ := h2.m0
  obtain ⟨c0, c1, c2, c3, c4, c5, _⟩ := h2.base.cells
  go_upto_region 3 with (at_mapUpdate; refine wpList_mapUpdate_own _ rfl _ _ _ 33 rfl 9 4 law9 Ybaf.underlying33 _ N m D0 rfl hD0 (by unfold maxLen; omega) _ _ _ rfl rfl (key9 hnl) _ [] (plainElem_bool Ybaf.underlying4 true) ?_; intro w3 hown3 hgrow3)
  have h3 := (h2.later (Nat.le_succ m) (Int.le_refl _)).turn0 ⟨_, hown3⟩ hgrow3
  have HST := Hid.out (p := Hid _) (start_any node hnl h3 (by omega) hk h0 h1)
  go_wp2_with fail
  refine Calls.mono HST.out ?_
  rintro e w4 ⟨rfl, h4⟩
  go_wp2
  go_end0
  exact ⟨rfl, h4⟩

/-- A string is handed over. -/
def NodeOk (e : Ending) : Prop := ∃ s : ByteArray, e = .returned (.string s) ∧ s.size ≤ maxLen
theorem nodeOk_mk (s : ByteArray) (h : s.size ≤ maxLen) : NodeOk (.returned (.string s)) := ⟨s, rfl, h⟩

set_option maxRecDepth 100000 in
theorem node_any (i : Int) (h0 : 0 ≤ i) (h1 : i ≤ 255) (w : World) : Calls Ybaf.prog 9 #[.int .u8 i] w fun e w' => NodeOk e ∧ w' = w := by
  obtain ⟨n, rfl⟩ : ∃ n : Nat, i = n := ⟨i.toNat, by omega⟩
  have hc : n % 3 = 0 ∨ n % 3 = 1 ∨ n % 3 = 2 := by omega
  rcases hc with hc | hc | hc
  · have e : ((n : Int).tmod 3) = 0 := by rw [Int.tmod_eq_emod_of_nonneg (by omega)]; omega
    go_enter Ybaf.func9, Ybaf.ntmps9
    go_wp2
    go_ret
    exact ⟨nodeOk_mk _ (by decide), rfl⟩
  · have e : ((n : Int).tmod 3) = 1 := by rw [Int.tmod_eq_emod_of_nonneg (by omega)]; omega
    go_enter Ybaf.func9, Ybaf.ntmps9
    go_wp2
    go_ret
    exact ⟨nodeOk_mk _ (by decide), rfl⟩
  · have e : ((n : Int).tmod 3) = 2 := by rw [Int.tmod_eq_emod_of_nonneg (by omega)]; omega
    go_enter Ybaf.func9, Ybaf.ntmps9
    go_wp2
    go_ret
    exact ⟨nodeOk_mk _ (by decide), rfl⟩

/-- What is known of the slice of operations that came in. -/
def OpRow (w : World) (ao : Option Addr) (n : Nat) (ops : Nat → Int × Int × Int) : Prop :=
  (0 < n → ∃ b off, ao = some ⟨b, off, none⟩ ∧ b < w.heap.size ∧ ∀ k, k < n → w.cell? ⟨b, off + k * 3, none⟩ = some (.int .u8 (ops k).1) ∧ w.cell? ⟨b, off + k * 3 + 1, none⟩ = some (.int .u8 (ops k).2.1) ∧ w.cell? ⟨b, off + k * 3 + 2, none⟩ = some (.int .u8 (ops k).2.2)) ∧
  ∀ k, k < n → (0 ≤ (ops k).1 ∧ (ops k).1 ≤ 255) ∧ (0 ≤ (ops k).2.1 ∧ (ops k).2.1 ≤ 255) ∧ (0 ≤ (ops k).2.2 ∧ (ops k).2.2 ≤ 255)

theorem SBase.cinv {N : Nat} {w0 w : World} {k : Nat} {v : Value} {rs : Nat → SRec} (h : SBase N w0 w k v rs) : CInv N (N + 5) w0 w rs 0 k v :=
  ⟨⟨rs, h.row, fun j hj => ⟨rfl, rfl, (h.recs j hj).2⟩⟩, ⟨_, _, _, _, _, h.hS⟩, h.bel, by omega⟩

theorem over_c {N : Nat} {w0 w : World} {k : Nat} {v : Value} {rs : Nat → SRec} (h : SBase N w0 w k v rs) (hk : k ≤ 1024) :
    Calls Ybaf.prog 14 #[.pointer (some ⟨N + 5, 0, none⟩)] w fun e w' => e = .returned (.int .i64 (ovl rs k)) ∧ Below w.heap.size w w' := by
  have c5 : w.cell? ⟨N + 5, 5, none⟩ = some v := by simp [World.cell?, h.hS]
  obtain ⟨_, ⟨hv, hn0⟩ | ⟨g, cp, cur, hv, hBg, hh, hcp, hcm, hcs, htk⟩⟩ := h.row
  · subst hv
    subst hn0
    refine (over_none (N + 5) 0 none w c5).mono ?_
    rintro e w' ⟨rfl, rfl⟩
    exact ⟨rfl, Below.refl _ _⟩
  · subst hv
    refine over_some (N + 5) g k cp rs w hk (lt_of_block hh) c5 ?_
    intro j hj i u hu
    have := flat_at rs k j i u hj hu
    have hlt : j * 6 + i < k * 6 := by
      have hl := (List.getElem?_eq_some_iff.1 this).1
      rw [flat_length] at hl
      exact hl
    rw [← htk, List.getElem?_take_of_lt hlt, Array.getElem?_toList] at this
    simp only [World.cell?, hh]
    simpa using this

theorem check_s {N : Nat} {w0 w : World} {k : Nat} {v : Value} {rs : Nat → SRec} (h : SBase N w0 w k v rs) (hk : k ≤ 1024) :
    Calls Ybaf.prog 7 #[.pointer (some ⟨N + 5, 0, none⟩), .int .i64 0] w fun e w' => Below N w0 w' ∧
      ((ovl rs k = 0 ∧ e = .returned .nilIface) ∨ (0 < ovl rs k ∧ ∃ J a c, e = .returned (.iface 59 (.pointer (some ⟨J, 0, none⟩))) ∧ w'.cell? ⟨J, 0, none⟩ = some (.slice a (ovl rs k) c))) := by
  have := check_c h.cinv (by omega) (by omega) hk
  rw [cnt_ovl (fun j hj => (h.recs j hj).1)] at this
  exact this

/-- The loop's invariant. -/
def ScInv (w wr : World) (j : Nat) (now : Int) : Prop := ∃ (k : Nat) (v : Value) (rs : Nat → SRec), k ≤ j ∧ 0 ≤ now ∧ now ≤ 255 * j ∧ SInv w.heap.size w wr (2 * j) now k v rs

/-- One operation more. -/
theorem sc_step {w w' : World} {j k m : Nat} {now : Int} {v : Value} {rs : Nat → SRec} (hk : k ≤ j + 1) (hm : m ≤ 2 * (j + 1)) (h0 : 0 ≤ now) (h1 : now ≤ 255 * (j + 1)) (h : SInv w.heap.size w w' m now k v rs) : ScInv w w' (j + 1) now :=
  ⟨k, v, rs, hk, h0, by omega, h.later hm (Int.le_refl _)⟩

set_option maxRecDepth 100000 in
set_option maxHeartbeats 1600000 in
theorem walkS (ao : Option Addr) (n cap : Nat) (ops : Nat → Int × Int × Int) (w : World) (hm : n ≤ maxLen) (hsrc : OpRow w ao n ops) :
    Calls Ybaf.prog 4 #[.slice ao n cap] w fun e w' => e = .returned (.bool true) ∧ Below w.heap.size w w' := by
  unfold maxLen at hm
  by_cases hn : n ≤ 1024
  case neg =>
    go_enter Ybaf.func4, Ybaf.ntmps4
    go_wp2
    go_ret
    exact ⟨rfl, Below.refl _ _⟩
  have HS := Hid.out (p := Hid _) hsrc
  clear hsrc hm
  go_enter Ybaf.func4, Ybaf.ntmps4
  go_wp2_with fail
  refine Calls.mono (newServing_any w) ?_
  rintro e w1 ⟨rfl, rfl⟩
  go_wp2_with fail
  have G0 := sinv_start w (fun _ => ⟨.empty, 0, none, 0, 0, .empty, 0, false⟩)
  go_loopg [4, 17] n (fun r nw i wr => ∃ (j : Nat) (now : Int), j + r = n ∧ i = .int .i64 j ∧ nw = .int .i64 now ∧ ScInv w wr j now)
  case atStart => exact ⟨0, 0, by omega, rfl, rfl, ⟨0, _, _, by omega, by omega, by omega, G0⟩⟩
  case round =>
    obtain ⟨j, now, hj, rfl, rfl, k, v, rs, hkj, n0, n1, G⟩ := hrel
    clear G0
    by_cases hlt : j < n
    · obtain ⟨b, off, rfl, hb, hcells⟩ := HS.out.1 (by omega)
      obtain ⟨⟨p0, p1⟩, ⟨q0, q1⟩, ⟨r0, r1⟩⟩ := HS.out.2 j hlt
      obtain ⟨s0, s1, s2⟩ := hcells j hlt
      have hbel := G.base.bel
      have s0' : wr.cell? ⟨b, off + j * 3, none⟩ = some (.int .u8 (ops j).1) := (hbel.cell (p := ⟨b, off + j * 3, none⟩) hb).trans s0
      have s1' : wr.cell? ⟨b, off + j * 3 + 1, none⟩ = some (.int .u8 (ops j).2.1) := (hbel.cell (p := ⟨b, off + j * 3 + 1, none⟩) hb).trans s1
      have s2' : wr.cell? ⟨b, off + j * 3 + 2, none⟩ = some (.int .u8 (ops j).2.2) := (hbel.cell (p := ⟨b, off + j * 3 + 2, none⟩) hb).trans s2
      obtain ⟨o, ho⟩ : ∃ o, o = (ops j).1 := ⟨_, rfl⟩
      obtain ⟨nd, hnd⟩ : ∃ nd, nd = (ops j).2.1 := ⟨_, rfl⟩
      obtain ⟨dt, hdt⟩ : ∃ dt, dt = (ops j).2.2 := ⟨_, rfl⟩
      rw [← ho] at s0' p0 p1
      rw [← hnd] at s1' q0 q1
      rw [← hdt] at s2' r0 r1
      clear s0 s1 s2 hcells HS ho hnd hdt
      have G2 := (G.kept ((Below.refl _ wr).alloc (Nat.le_refl _) (.cells #[.int .u8 o, .int .u8 nd, .int .u8 dt] 44))).later (Nat.le_refl _) (show now ≤ now + dt by omega)
      go_wp2_with fail
      refine Calls.mono (node_any nd q0 q1 _) ?_
      rintro e w2 ⟨⟨s, rfl, hsl⟩, rfl⟩
      obtain ⟨od, rfl⟩ : ∃ od : Nat, o = od := ⟨o.toNat, by omega⟩
      have hc : od % 4 = 0 ∨ od % 4 = 1 ∨ od % 4 = 2 ∨ od % 4 = 3 := by omega
      rcases hc with hc | hc | hc | hc
      · have e : ((od : Int).tmod 4) = 0 := by rw [Int.tmod_eq_emod_of_nonneg (by omega)]; omega
        go_wp2_with fail
        refine Calls.mono (promote_any s hsl G2 (by omega) (by omega) (by omega) (by omega)) ?_
        rintro e w3 ⟨rfl, k', v', rs', hk', h4⟩
        go_wp2
        go_roundg (gk - 1)
        case measure => omega
        case rel => exact ⟨j + 1, now + dt, by omega, by go_num, rfl, sc_step (by omega) (by omega) (by omega) (by omega) h4⟩
      · have e : ((od : Int).tmod 4) = 1 := by rw [Int.tmod_eq_emod_of_nonneg (by omega)]; omega
        go_wp2_with fail
        refine Calls.mono (demote_any s hsl G2 (by omega) (by omega) (by omega)) ?_
        rintro e w3 ⟨rfl, h4⟩
        go_wp2
        go_roundg (gk - 1)
        case measure => omega
        case rel => exact ⟨j + 1, now + dt, by omega, by go_num, rfl, sc_step (by omega) (by omega) (by omega) (by omega) h4⟩
      · have e : ((od : Int).tmod 4) = 2 := by rw [Int.tmod_eq_emod_of_nonneg (by omega)]; omega
        go_wp2_with fail
        refine Calls.mono (standby_any s hsl G2 (by omega) (by omega) (by omega)) ?_
        rintro e w3 ⟨rfl, h4⟩
        go_wp2
        go_roundg (gk - 1)
        case measure => omega
        case rel => exact ⟨j + 1, now + dt, by omega, by go_num, rfl, sc_step (by omega) (by omega) (by omega) (by omega) h4⟩
      · have e : ((od : Int).tmod 4) = 3 := by rw [Int.tmod_eq_emod_of_nonneg (by omega)]; omega
        go_wp2_with fail
        refine Calls.mono (end_any s hsl G2) ?_
        rintro e w3 ⟨rfl, h4⟩
        go_wp2
        go_roundg (gk - 1)
        case measure => omega
        case rel => exact ⟨j + 1, now + dt, by omega, by go_num, rfl, sc_step (by omega) (by omega) (by omega) (by omega) h4⟩
    · obtain rfl : j = n := by omega
      have HO := Hid.out (p := Hid _) (over_c G.base (by omega))
      have hol := ovl_le rs k
      obtain ⟨m, hm⟩ : ∃ m, m = ovl rs k := ⟨_, rfl⟩
      have HM := Hid.out (p := Hid _) hm
      rw [← hm] at HO hol
      clear hm HS
      go_wp2_with fail
      refine Calls.mono HO.out ?_
      rintro e w2 ⟨rfl, hb2⟩
      have HC := Hid.out (p := Hid _) (check_s (G.kept hb2).base (by omega))
      rw [← HM.out] at HC
      go_wp2_with fail
      refine Calls.mono HC.out ?_
      rintro e w3 ⟨hb3, ⟨h0, rfl⟩ | ⟨h0, J, a, c, rfl, hJ⟩⟩
      · go_wp2
        go_ret
        exact ⟨rfl, hb3⟩
      · go_wp2_with fail
        refine Calls.mono (count_any J m c a w3 hJ) ?_
        rintro e w4 ⟨rfl, rfl⟩
        go_wp2
        go_ret
        exact ⟨by simp, hb3⟩
end Go.Proofs.YbulkasgcFmt
