/-
  Parts for 'LawS2186BCounts': the callees' contracts (zzs2186bpick, partner) and small facts. Our own work over the given program.
-/
import Derived.Test.YbulkasgcRows
import Derived.WalkKit
import Derived.WalkSpells
import Derived.WalkLawsBesides
import Derived.Maps.OwnSet
import Derived.Deep.QuietTactic
import Derived.BigQuiet
namespace Go.Proofs.Ybulkasgc
open Go.RowKit Go.WideMaps Go.Maps

/-- Old cells and old marks of one block behind a step that wrote another block. -/
theorem gcell {W w1 : World} {row : Option Nat} (hg : W.grownBy w1 row) {B : Nat} (hB : B < W.heap.size) (hne : some B ≠ row) :
    (∀ o, w1.cell? ⟨B, o, none⟩ = W.cell? ⟨B, o, none⟩) ∧ (∀ o, w1.frozen? ⟨B, o, none⟩ = W.frozen? ⟨B, o, none⟩) :=
  ⟨fun o => World.cell?_of_block (a := ⟨B, o, none⟩) (hg.block B hB hne), fun o => World.frozen?_of_block (a := ⟨B, o, none⟩) (hg.block B hB hne)⟩

theorem toList_ne {a b : ByteArray} (h : a ≠ b) : (a.toList == b.toList) = false := by
  cases e : (a.toList == b.toList)
  · rfl
  · exact absurd (by
      have h1 : a.toList = b.toList := by simpa using e
      have h2 : a.data.toList = b.data.toList := by simpa [ByteArray.toList_eq] using h1
      cases a; cases b; simp_all [Array.toList_inj]) h

/-- A composite literal of a struct type, by its run. -/
theorem wpList_build_run {P : Program} (w : World) {ops : Array Oper} {rest : List Oper} {o : Oper} {a : Act} {Q : Exit → Act → World → Prop} (hg : o.guard = none) (t : TypeId) (parts : Array (Nat × Operand)) (ho : o.op = .build t parts)
    (vs : List (Nat × Value)) (hev : (parts.toList.map fun x => (x.1, a.eval x.2)) = vs) (v : Value) (hrun : (Instr.build t vs.toArray).run P w = .ok v w) (h : wpList P ops Q rest (a.put o.dst v) w) : wpList P ops Q (o :: rest) a w := by
  have hev' : (parts.map fun (i, x) => (i, a.eval x)) = vs.toArray := by
    rw [← hev]
    apply Array.toList_inj.1
    simp
  refine wpList_plain hg fun K' hK' => ?_
  unfold Oper.wp
  simp only [execOp, ho, hev']
  simp [hrun, Result.andThen]
  exact hK' _ _ h

set_option maxHeartbeats 400000 in
theorem pick_any (p m n : ByteArray) (sel : Int) (h0 : 0 ≤ sel) (h1 : sel ≤ 255) (hp : p.size ≤ maxLen) (hm : m.size ≤ maxLen) (hn : n.size ≤ maxLen) (w : World) :
    Calls Yba.prog 9 #[.string p, .string m, .string n, .int .u8 sel] w fun e w' => (∃ s : ByteArray, s.size ≤ maxLen ∧ e = .returned (.string s)) ∧ w' = w := by
  go_enter Yba.func9, Yba.ntmps9
  go_wp2
  all_goals (go_ret; first | exact ⟨⟨_, hp, rfl⟩, rfl⟩ | exact ⟨⟨_, hm, rfl⟩, rfl⟩ | exact ⟨⟨_, hn, rfl⟩, rfl⟩)

set_option maxHeartbeats 400000 in
theorem partner_hit (B : Nat) (A M : ByteArray) (w : World) (c10 : w.cell? ⟨B, 10, none⟩ = some (.string A)) (c11 : w.cell? ⟨B, 11, none⟩ = some (.string M)) :
    Calls Yba.prog 13 #[.pointer (some ⟨B, 0, none⟩), .string A] w fun e w' => e = .returned (.string M) ∧ w' = w := by
  go_enter Yba.func13, Yba.ntmps13
  go_wp2
  go_ret
  exact ⟨rfl, rfl⟩

set_option maxHeartbeats 400000 in
theorem partner_miss (B : Nat) (A node : ByteArray) (w : World) (c10 : w.cell? ⟨B, 10, none⟩ = some (.string A)) (hne : (node.toList == A.toList) = false) :
    Calls Yba.prog 13 #[.pointer (some ⟨B, 0, none⟩), .string node] w fun e w' => e = .returned (.string A) ∧ w' = w := by
  go_enter Yba.func13, Yba.ntmps13
  go_wp2
  go_ret
  exact ⟨rfl, rfl⟩

end Go.Proofs.Ybulkasgc
