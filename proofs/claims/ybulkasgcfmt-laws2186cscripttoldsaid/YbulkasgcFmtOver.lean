/-
  'LawS2186CScript': Overlaps. Our own work over the given program.
-/
import Derived.Test.YbulkasgcFmtSOps
namespace Go.Proofs.YbulkasgcFmt
open Go.RowKit Go.WideMaps Go.Maps

/-- How many of the first k starts had others. -/
def ovl (rs : Nat → SRec) : Nat → Nat
  | 0 => 0
  | k + 1 => ovl rs k + (if 0 < (rs k).on then 1 else 0)

theorem ovl_le (rs : Nat → SRec) : ∀ k, ovl rs k ≤ k
  | 0 => Nat.le_refl _
  | k + 1 => by
    have := ovl_le rs k
    unfold ovl
    split <;> omega

theorem cnt_ovl {rs : Nat → SRec} {lead : Int} : ∀ {k : Nat}, (∀ j, j < k → (rs j).late lead = false) → cnt rs lead k = ovl rs k
  | 0, _ => rfl
  | k + 1, h => by
    unfold cnt ovl
    rw [cnt_ovl (fun j hj => h j (by omega)), h k (by omega)]
    simp

set_option maxRecDepth 100000 in
theorem over_none (S cap : Nat) (ao : Option Addr) (w : World) (c5 : w.cell? ⟨S, 5, none⟩ = some (.slice ao 0 cap)) :
    Calls Ybaf.prog 14 #[.pointer (some ⟨S, 0, none⟩)] w fun e w' => e = .returned (.int .i64 0) ∧ w' = w := by
  go_enter Ybaf.func14, Ybaf.ntmps14
  go_wp2_with fail
  go_loopg [3, 11] 0 (fun r n i wr => n = .int .i64 0 ∧ i = .int .i64 0 ∧ wr = w)
  case atStart => exact ⟨rfl, rfl, rfl⟩
  case round =>
    obtain ⟨rfl, rfl, rfl⟩ := hrel
    go_wp2
    go_ret
    exact ⟨rfl, rfl⟩

set_option maxRecDepth 100000 in
theorem over_some (S b n cap : Nat) (rs : Nat → SRec) (w : World) (hn : n ≤ 1024) (hb : b < w.heap.size) (c5 : w.cell? ⟨S, 5, none⟩ = some (.slice (some ⟨b, 0, none⟩) n cap)) (hst : StartsAt w b n rs) :
    Calls Ybaf.prog 14 #[.pointer (some ⟨S, 0, none⟩)] w fun e w' => e = .returned (.int .i64 (ovl rs n)) ∧ Below w.heap.size w w' := by
  have HS := Hid.out (p := Hid _) hst
  clear hst
  go_enter Ybaf.func14, Ybaf.ntmps14
  go_wp2_with fail
  go_loopg [3, 11] n (fun r c i wr => ∃ k : Nat, k + r = n ∧ i = .int .i64 k ∧ c = .int .i64 (ovl rs k) ∧ Below w.heap.size w wr)
  case atStart => exact ⟨0, by omega, rfl, rfl, Below.refl _ _⟩
  case round =>
    obtain ⟨k, hk, rfl, rfl, hbel⟩ := hrel
    have hol := ovl_le rs k
    have HO : Hid (ovl rs (k + 1) = ovl rs k + (if 0 < (rs k).on then 1 else 0)) := rfl
    obtain ⟨m, hm⟩ : ∃ m, m = ovl rs k := ⟨_, rfl⟩
    by_cases hlt : k < n
    · have hs : ∀ j u, (rs k).cells[j]? = some u → wr.cell? ⟨b, k * 6 + j, none⟩ = some u := fun j u hj => (hbel.cell (p := ⟨b, k * 6 + j, none⟩) hb).trans (HS.out k hlt j u hj)
      obtain ⟨z, hz⟩ : ∃ z, z = rs k := ⟨_, rfl⟩
      rw [← hm] at hol HO ⊢
      rw [← hz] at hs HO
      have s0 : wr.cell? ⟨b, k * 6, none⟩ = some (.string z.node) := hs 0 _ rfl
      have s1 : wr.cell? ⟨b, k * 6 + 1, none⟩ = some (.int .i64 z.at_) := hs 1 _ rfl
      have s2 : wr.cell? ⟨b, k * 6 + 2, none⟩ = some (.slice z.oa z.on z.oc) := hs 2 _ rfl
      have s3 : wr.cell? ⟨b, k * 6 + 3, none⟩ = some (.string z.stopped) := hs 3 _ rfl
      have s4 : wr.cell? ⟨b, k * 6 + 4, none⟩ = some (.int .i64 z.sat) := hs 4 _ rfl
      have s5 : wr.cell? ⟨b, k * 6 + 5, none⟩ = some (.bool z.sby) := hs 5 _ rfl
      have hbel2 : Below w.heap.size w (wr.alloc (.cells #[.string z.node, .int .i64 z.at_, .slice z.oa z.on z.oc, .string z.stopped, .int .i64 z.sat, .bool z.sby] 31)) := hbel.alloc hbel.size _
      clear hs hz hm HS
      by_cases ho : 0 < z.on
      · go_wp2
        go_roundg (gk - 1)
        case measure => omega
        case rel => exact ⟨k + 1, by omega, by go_num, by rw [HO.out, if_pos ho]; go_num, hbel2⟩
      · go_wp2
        go_roundg (gk - 1)
        case measure => omega
        case rel => exact ⟨k + 1, by omega, by go_num, by rw [HO.out, if_neg ho]; rfl, hbel2⟩
    · obtain rfl : k = n := by omega
      go_wp2
      go_ret
      exact ⟨rfl, hbel⟩
end Go.Proofs.YbulkasgcFmt
