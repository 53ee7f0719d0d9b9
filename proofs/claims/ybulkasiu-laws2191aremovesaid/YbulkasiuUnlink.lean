/-
  'LawS2191ARemove': 'unlink', 'remove', 'unplace'. Our own work over the given program.
-/
import Derived.Test.YbulkasiuShard
import Derived.Deep.DeepCutAuto
import Derived.Deep.RegionHeldLaw
import Derived.BigQuiet
namespace Go.Proofs.Ybulkasiu
open Go.RowKit
set_option linter.unusedVariables false      -- the walks take the blocks' being apart as they find it

abbrev ptr (T : Nat) : Value := .pointer (some ⟨T, 0, none⟩)

/-- The word with the slot's bit cleared. -/
def clr (x : Int) (sl : Nat) : Int := bits BinOp.andNot IntKind.u64 x (IntKind.u64.wrap (2 ^ (sl % 64)))

/-- The timer in block T, unlinked. -/
def cutW (w : World) (T : Nat) : World := ((w.setCell ⟨T, 3, none⟩ (.pointer none)).setCell ⟨T, 4, none⟩ (.pointer none)).setCell ⟨T, 5, none⟩ (.int .i32 (-1))

/-- What 'unlink' leaves where the list gets empty .. -/
def lowW (w : World) (S T sl : Nat) (x : Int) : World := ((cutW (w.setCell ⟨S, 17 + sl, none⟩ (.pointer none)) T).setCell ⟨S, 6 + sl / 64, none⟩ (.int .u64 (clr x sl))).drew.drew
/-- .. and the slot bears no bit. -/
def highW (w : World) (S T sl : Nat) : World := (cutW (w.setCell ⟨S, 17 + sl, none⟩ (.pointer none)) T).drew
/-- .. where the head of more than one goes .. -/
def headW (w : World) (S T Q sl : Nat) : World := (cutW ((w.setCell ⟨S, 17 + sl, none⟩ (ptr Q)).setCell ⟨Q, 3, none⟩ (.pointer none)) T).drew.drew
/-- .. where the last of more than one goes .. -/
def lastW (w : World) (T P : Nat) : World := (cutW (w.setCell ⟨P, 4, none⟩ (.pointer none)) T).drew
/-- .. and where one between two goes. -/
def midW (w : World) (T P Q : Nat) : World := (cutW ((w.setCell ⟨P, 4, none⟩ (ptr Q)).setCell ⟨Q, 3, none⟩ (ptr P)) T).drew.drew

set_option maxRecDepth 100000 in
set_option maxHeartbeats 800000 in
theorem unlink_low (S T sl : Nat) (x : Int) (f : Nat → Value) (w : World) (hs : ShardAt w S f) (ht : TimerAt w T (.pointer none) (.pointer none) sl) (hne : S ≠ T) (h7 : sl < 704) (hx : f (6 + sl / 64) = .int .u64 x) :
    Calls Yba.prog 12 #[.pointer (some ⟨S, 4, none⟩), ptr T] w fun e w' => e = .returned (.tuple #[]) ∧ w' = lowW w S T sl x := by
  obtain ⟨t3, t4, t5, g3, g4, g5⟩ := ht.cells
  have c17 := hs.cell (o := 17 + sl) (by omega)
  have m17 := hs.mark (17 + sl)
  have hd : (sl : Int).tdiv 64 = ((sl / 64 : Nat) : Int) := by rw [Int.tdiv_eq_ediv_of_nonneg (by omega)]; omega
  have hr : (sl : Int).tmod 64 = ((sl % 64 : Nat) : Int) := by rw [Int.tmod_eq_emod_of_nonneg (by omega)]; omega
  have c6 : w.cell? ⟨S, 6 + sl / 64, none⟩ = some (.int .u64 x) := by rw [← hx]; exact hs.cell (by omega)
  have m6 := hs.mark (6 + sl / 64)
  have hq' : sl / 64 < 11 := by omega
  have hsm : sl % 64 < 64 := by omega
  clear hs ht hx
  go_enter Yba.func12, Yba.ntmps12
  go_upto_region 3 with fail
  go_region
  go_wp2_with fail
  go_region
  go_wp2
  go_end0
  exact ⟨rfl, rfl⟩

set_option maxRecDepth 100000 in
set_option maxHeartbeats 800000 in
theorem unlink_high (S T sl : Nat) (f : Nat → Value) (w : World) (hs : ShardAt w S f) (ht : TimerAt w T (.pointer none) (.pointer none) sl) (hne : S ≠ T) (h6 : sl < 706) (h7 : ¬ sl < 704) :
    Calls Yba.prog 12 #[.pointer (some ⟨S, 4, none⟩), ptr T] w fun e w' => e = .returned (.tuple #[]) ∧ w' = highW w S T sl := by
  obtain ⟨t3, t4, t5, g3, g4, g5⟩ := ht.cells
  have c17 := hs.cell (o := 17 + sl) (by omega)
  have m17 := hs.mark (17 + sl)
  clear hs ht
  go_enter Yba.func12, Yba.ntmps12
  go_upto_region 3 with fail
  go_region
  go_wp2_with fail
  go_end0
  exact ⟨rfl, rfl⟩

set_option maxRecDepth 100000 in
set_option maxHeartbeats 800000 in
theorem unlink_head (S T Q sl : Nat) (n2 : Value) (f : Nat → Value) (w : World) (hs : ShardAt w S f) (ht : TimerAt w T (.pointer none) (ptr Q) sl) (hq : TimerAt w Q (ptr T) n2 sl) (hST : S ≠ T) (hSQ : S ≠ Q) (hQT : Q ≠ T) (h6 : sl < 706) :
    Calls Yba.prog 12 #[.pointer (some ⟨S, 4, none⟩), ptr T] w fun e w' => e = .returned (.tuple #[]) ∧ w' = headW w S T Q sl := by
  obtain ⟨t3, t4, t5, g3, g4, g5⟩ := ht.cells
  obtain ⟨q3, q4, q5, k3, k4, k5⟩ := hq.cells
  have c17 := hs.cell (o := 17 + sl) (by omega)
  have m17 := hs.mark (17 + sl)
  clear hs ht hq
  go_enter Yba.func12, Yba.ntmps12
  go_upto_region 3 with fail
  go_region
  go_wp2_with fail
  go_region
  go_wp2_with fail
  go_end0
  exact ⟨rfl, rfl⟩

set_option maxRecDepth 100000 in
set_option maxHeartbeats 800000 in
theorem unlink_last (S T P H sl : Nat) (p2 : Value) (f : Nat → Value) (w : World) (hs : ShardAt w S f) (ht : TimerAt w T (ptr P) (.pointer none) sl) (hp : TimerAt w P p2 (ptr T) sl) (hST : S ≠ T) (hSP : S ≠ P) (hPT : P ≠ T) (h6 : sl < 706) (hH : f (17 + sl) = ptr H) :
    Calls Yba.prog 12 #[.pointer (some ⟨S, 4, none⟩), ptr T] w fun e w' => e = .returned (.tuple #[]) ∧ w' = lastW w T P := by
  obtain ⟨t3, t4, t5, g3, g4, g5⟩ := ht.cells
  obtain ⟨q3, q4, q5, k3, k4, k5⟩ := hp.cells
  have c17 : w.cell? ⟨S, 17 + sl, none⟩ = some (ptr H) := by rw [← hH]; exact hs.cell (o := 17 + sl) (by omega)
  have m17 := hs.mark (17 + sl)
  clear hs ht hp
  go_enter Yba.func12, Yba.ntmps12
  go_upto_region 2 with fail
  go_region
  go_wp2_with fail
  go_end0
  exact ⟨rfl, rfl⟩

set_option maxRecDepth 100000 in
set_option maxHeartbeats 800000 in
theorem unlink_mid (S T P Q H sl : Nat) (p2 n2 : Value) (f : Nat → Value) (w : World) (hs : ShardAt w S f) (ht : TimerAt w T (ptr P) (ptr Q) sl) (hp : TimerAt w P p2 (ptr T) sl) (hq : TimerAt w Q (ptr T) n2 sl) (hST : S ≠ T) (hSP : S ≠ P) (hPT : P ≠ T) (hSQ : S ≠ Q) (hQT : Q ≠ T) (hPQ : P ≠ Q) (h6 : sl < 706) (hH : f (17 + sl) = ptr H) :
    Calls Yba.prog 12 #[.pointer (some ⟨S, 4, none⟩), ptr T] w fun e w' => e = .returned (.tuple #[]) ∧ w' = midW w T P Q := by
  obtain ⟨t3, t4, t5, g3, g4, g5⟩ := ht.cells
  obtain ⟨q3, q4, q5, k3, k4, k5⟩ := hp.cells
  obtain ⟨r3, r4, r5, l3, l4, l5⟩ := hq.cells
  have c17 : w.cell? ⟨S, 17 + sl, none⟩ = some (ptr H) := by rw [← hH]; exact hs.cell (o := 17 + sl) (by omega)
  have m17 := hs.mark (17 + sl)
  clear hs ht hp hq
  go_enter Yba.func12, Yba.ntmps12
  go_upto_region 2 with fail
  go_region
  go_wp2_with fail
  go_region
  go_wp2_with fail
  go_end0
  exact ⟨rfl, rfl⟩

/-- 'remove', by what 'unlink' leaves. -/
theorem remove_of (S T : Nat) (n : Int) (w wu : World) (h : Calls Yba.prog 12 #[.pointer (some ⟨S, 4, none⟩), ptr T] w fun e w' => e = .returned (.tuple #[]) ∧ w' = wu) (c5 : wu.cell? ⟨S, 5, none⟩ = some (.int .i64 n)) (m5 : wu.frozen? ⟨S, 5, none⟩ = false) :
    Calls Yba.prog 11 #[.pointer (some ⟨S, 4, none⟩), ptr T] w fun e w' => e = .returned (.tuple #[]) ∧ w' = wu.setCell ⟨S, 5, none⟩ (.int .i64 (wrap64 (n - 1))) := by
  have H : Hid (Calls Yba.prog 12 #[.pointer (some ⟨S, 4, none⟩), ptr T] w fun e w' => e = .returned (.tuple #[]) ∧ w' = wu) := h
  clear h
  go_enter Yba.func11, Yba.ntmps11
  go_wp2_with fail
  refine Calls.mono H.out ?_
  rintro e w' ⟨rfl, rfl⟩
  go_wp2
  go_end0
  exact ⟨rfl, rfl⟩

/-- 'unplace', by what 'unlink' leaves. -/
theorem unplace_of (S T sl : Nat) (n : Int) (w wu : World) (h : Calls Yba.prog 12 #[.pointer (some ⟨S, 4, none⟩), ptr T] w fun e w' => e = .returned (.tuple #[]) ∧ w' = wu) (c5 : wu.cell? ⟨S, 5, none⟩ = some (.int .i64 n)) (m5 : wu.frozen? ⟨S, 5, none⟩ = false) (t5 : w.cell? ⟨T, 5, none⟩ = some (.int .i32 sl)) :
    Calls Yba.prog 7 #[ptr S, ptr T] w fun e w' => e = .returned (.bool true) ∧ w' = wu.setCell ⟨S, 5, none⟩ (.int .i64 (wrap64 (n - 1))) := by
  have H : Hid (Calls Yba.prog 11 #[.pointer (some ⟨S, 4, none⟩), ptr T] w fun e w' => e = .returned (.tuple #[]) ∧ w' = wu.setCell ⟨S, 5, none⟩ (.int .i64 (wrap64 (n - 1)))) := remove_of S T n w wu h c5 m5
  clear h c5 m5
  have hsl : ((sl : Int) == -1) = false := by simp
  go_enter Yba.func7, Yba.ntmps7
  go_wp2_with fail
  refine Calls.mono H.out ?_
  rintro e w' ⟨rfl, rfl⟩
  go_wp2
  go_ret
  exact ⟨rfl, rfl⟩
end Go.Proofs.Ybulkasiu
