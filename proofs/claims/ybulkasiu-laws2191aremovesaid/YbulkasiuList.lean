/-
  'LawS2191ARemove': a slot's list, and 'zzs2191alist'. Our own work over the given program.
-/
import Derived.Test.YbulkasiuUnlink
import Derived.LaidEqlPtr
namespace Go.Proofs.Ybulkasiu
open Go.RowKit
set_option linter.unusedVariables false

theorem info48 : (Yba.prog.info? 48).isSome = true := by kernel_rfl

/-- A timer's pointer against itself. -/
theorem neq_same (b : Nat) (w : World) : (binOp .neq 29 (.pointer (some ⟨b, 0, none⟩)) (.pointer (some ⟨b, 0, none⟩))).run Yba.prog w = .ok (.bool false) w := by
  obtain ⟨j, hj⟩ := Option.isSome_iff_exists.1 info48
  have h : ∀ d : Nat, (Op.equalIn (d + 1) 29 (.pointer (some ⟨b, 0, none⟩)) (.pointer (some ⟨b, 0, none⟩))).run Yba.prog w = .ok true w := fun d => by
    simp [Op.equalIn, run_underlying Yba.underlying29, sizeOf, typeInfo, hj, run_sameAddr_same]
  simp only [binOp]
  simp [Op.equal, Op.maxDepth, h 9999]

/-- The neighbours of the i-th of m timers. -/
def pv (q : Nat → Nat) (i : Nat) : Value := if i = 0 then .pointer none else ptr (q (i - 1))
def nx (q : Nat → Nat) (m i : Nat) : Value := if i + 1 < m then ptr (q (i + 1)) else .pointer none
/-- The i-th of m timers, or nil behind the last. -/
def it (q : Nat → Nat) (m i : Nat) : Value := if i < m then ptr (q i) else .pointer none

theorem pv_zero (q : Nat → Nat) : pv q 0 = .pointer none := rfl
theorem pv_succ (q : Nat → Nat) (i : Nat) : pv q (i + 1) = ptr (q i) := rfl
theorem it_lt {q : Nat → Nat} {m i : Nat} (h : i < m) : it q m i = ptr (q i) := if_pos h
theorem it_ge {q : Nat → Nat} {m i : Nat} (h : ¬ i < m) : it q m i = .pointer none := if_neg h

/-- The slot sl holds the list of q 0 .. q (m - 1), and no other slot holds any. -/
structure LSt (w : World) (S sl m : Nat) (q : Nat → Nat) (f : Nat → Value) : Prop where
  shard : ShardAt w S f
  head : f (17 + sl) = it q m 0
  rest : ∀ o, o < 706 → o ≠ sl → f (17 + o) = .pointer none
  tim : ∀ i, i < m → TimerAt w (q i) (pv q i) (nx q m i) sl

set_option maxRecDepth 100000 in
set_option maxHeartbeats 800000 in
theorem alist_any (S sl m R cap : Nat) (ao : Option Addr) (q : Nat → Nat) (f : Nat → Value) (w : World) (hsl : sl < 706) (hm : m ≤ 8) (hL : LSt w S sl m q f) (hao : 0 < m → ao = some ⟨R, 0, none⟩) (hR : ∀ i, i < m → w.cell? ⟨R, i, none⟩ = some (ptr (q i))) :
    Calls Yba.prog 8 #[ptr S, .int .i64 sl, .slice ao m cap] w fun e w' => e = .returned (.bool true) ∧ w' = w := by
  have c17 : w.cell? ⟨S, 17 + sl, none⟩ = some (it q m 0) := (hL.shard.cell (o := 17 + sl) (by omega)).trans (congrArg some hL.head)
  have HL : Hid (LSt w S sl m q f) := hL
  have HR : Hid (∀ i, i < m → w.cell? ⟨R, i, none⟩ = some (ptr (q i))) := hR
  have HA : Hid (0 < m → ao = some ⟨R, 0, none⟩) := hao
  clear hL hR hao
  have hnq := neq_same
  go_enter Yba.func8, Yba.ntmps8
  go_wp2_with fail
  clear c17
  go_loopg [7, 8, 9] m (fun r p v i wr => ∃ k : Nat, k + r = m ∧ i = .int .i64 k ∧ p = it q m k ∧ v = pv q k ∧ wr = w)
  case atStart => exact ⟨0, by omega, rfl, rfl, rfl, rfl⟩
  case round =>
    obtain ⟨k, hk, rfl, hp, rfl, rfl⟩ := hrel
    by_cases hlt : k < m
    · obtain rfl := HA.out (by omega)
      have cR := HR.out k hlt
      obtain ⟨t3, t4, t5, _⟩ := (HL.out.tim k hlt).cells
      have hi := it_lt (q := q) hlt
      have hnx : nx q m k = it q m (k + 1) := rfl
      rw [hnx] at t4
      clear HR HL HA hnx
      rcases k with _ | k
      · rw [pv_zero] at *
        rw [hi] at hp
        subst hp
        go_wp2
        go_roundg (gk - 1)
        case measure => omega
        case rel => exact ⟨0 + 1, by omega, by go_num, rfl, rfl, rfl⟩
      · rw [pv_succ] at *
        rw [hi] at hp
        subst hp
        go_wp2
        go_roundg (gk - 1)
        case measure => omega
        case rel => exact ⟨k + 1 + 1, by omega, by go_num, rfl, rfl, rfl⟩
    · have hi := it_ge (q := q) hlt
      rw [hi] at hp
      subst hp
      go_wp2_with fail
      rename World => w0
      go_loopg [10] 706 (fun r i wr => ∃ k : Nat, k + r = 706 ∧ i = .int .i64 k ∧ wr = w0)
      case atStart => exact ⟨0, by omega, rfl, rfl⟩
      case round =>
        obtain ⟨o, ho, rfl, rfl⟩ := hrel
        by_cases h7 : o < 706
        · by_cases he : o = sl
          · subst he
            go_wp2
            go_roundg (gk - 1)
            case measure => omega
            case rel => exact ⟨o + 1, by omega, by go_num, rfl⟩
          · have co : wr.cell? ⟨S, 17 + o, none⟩ = some (.pointer none) := (HL.out.shard.cell (o := 17 + o) (by omega)).trans (congrArg some (HL.out.rest o h7 he))
            go_wp2
            go_roundg (gk - 1)
            case measure => omega
            case rel => exact ⟨o + 1, by omega, by go_num, rfl⟩
        · go_wp2
          go_ret
          exact ⟨rfl, rfl⟩
end Go.Proofs.Ybulkasiu
