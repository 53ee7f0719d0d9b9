/-
  The closed facts for the walk over fmt's stop 'fmt.errorf' (its operands' methods called), at this program's two formats. Our own work over the given program.
-/
import Derived.Test.YbulkasgcFmtDur
import Derived.Stop.CallBack
import Derived.Stop.IfaceNil
import Derived.Laws.Cells
import GoSem.ClaimData
namespace Go.Proofs.YbulkasgcFmt
open Go.RowKit Go.Extern.Stop Go.Stop Go.Extern

theorem call19 (args : Array Value) (w : World) : (callFunc 19 args).run Ybaf.prog w = (FmtCalls.errorf #[9, 56] #[38] args).run Ybaf.prog w :=
  run_callFunc_next Ybaf.func19 (by kernel_rfl) (by kernel_rfl) (by kernel_rfl) args w
theorem guardF (name : String) (w : World) : (FmtStop.guard name).run Ybaf.prog w = .ok () w := by kernel_rfl
theorem nextTurns : Extern.next FmtCalls.turnsRow = some (FmtCalls.begun #[] #[]) := by kernel_rfl
theorem nextReturned : Extern.next FmtCalls.returnedRow = some (FmtCalls.returned #[] #[]) := by kernel_rfl

/-- The two formats. -/
abbrev fmtA : ByteArray := ⟨#[97, 116, 32, 37, 118, 32, 37, 115, 32, 115, 116, 97, 114, 116, 115, 32, 115, 101, 114, 118, 105, 110, 103, 32, 119, 104, 105, 108, 101, 32, 37, 115, 32, 115, 101, 114, 118, 101, 115]⟩
abbrev fmtB : ByteArray := ⟨#[97, 116, 32, 37, 118, 32, 37, 115, 32, 115, 116, 97, 114, 116, 115, 32, 115, 101, 114, 118, 105, 110, 103, 32, 37, 118, 32, 97, 102, 116, 101, 114, 32, 37, 115, 32, 115, 116, 97, 114, 116, 101, 100, 32, 105, 116, 115, 32, 100, 101, 109, 111, 116, 101, 32, 99, 111, 109, 109, 97, 110, 100, 44, 32, 119, 104, 105, 99, 104, 32, 104, 97, 100, 32, 110, 111, 116, 32, 101, 110, 100, 101, 100, 59, 32, 119, 97, 110, 116, 32, 97, 116, 32, 108, 101, 97, 115, 116, 32, 37, 118]⟩

theorem printedA (w : World) : (FmtDoors.printed fmtA 3).run Ybaf.prog w = .ok [(0, 118, false), (1, 115, false), (2, 115, false)] w := by kernel_rfl
theorem printedB (w : World) : (FmtDoors.printed fmtB 5).run Ybaf.prog w = .ok [(0, 118, false), (1, 115, false), (2, 118, false), (3, 115, false), (4, 118, false)] w := by kernel_rfl

theorem act28 (name : String) (x : Value) (w : World) : (FmtCalls.act name true 118 false (.iface 28 x)).run Ybaf.prog w = .ok (.call false) w := by kernel_rfl
theorem act9 (name : String) (x : Value) (w : World) : (FmtCalls.act name true 115 false (.iface 9 x)).run Ybaf.prog w = .ok (.closed true) w := by kernel_rfl
theorem act25 (name : String) (x : Value) (w : World) : (FmtCalls.act name true 115 false (.iface 25 x)).run Ybaf.prog w = .ok (.closed true) w := by kernel_rfl
theorem invoke28 (x : Value) (w : World) : (invoke (.fn (.method "String") #[]) #[.iface 28 x]).run Ybaf.prog w = .ok (.enter 21 #[x]) w := by kernel_rfl
theorem str28 (w : World) : (typeStr 28).run Ybaf.prog w = .ok "time.Duration" w := by kernel_rfl

def shape9 : List UInt8 := 12 :: FmtStop.pack "string".toUTF8.data.toList
theorem op9 (name : String) (s : ByteArray) (w : World) : (FmtStop.operand name true 115 false (.iface 9 (.string s))).run Ybaf.prog w = .ok (shape9, FmtStop.pack s.data.toList) w := by kernel_rfl

theorem ptr68 (w : World) : (FmtStop.ptrTo "errors.errorString").run Ybaf.prog w = .ok 68 w := by kernel_rfl
theorem elem68 (w : World) : (elemOf 68).run Ybaf.prog w = .ok 70 w := by kernel_rfl

/-- A slice of strings that lies in memory, as fmt reads it. -/
def shape25 : List UInt8 := 13 :: (FmtStop.pack "[]string".toUTF8.data.toList ++ 12 :: FmtStop.pack "string".toUTF8.data.toList)

theorem value9 (name : String) (s : ByteArray) (w : World) : (FmtStop.value name FmtStop.depth 9 [.string s]).run Ybaf.prog w = .ok (FmtStop.pack s.data.toList) w := by kernel_rfl

theorem values9 (name : String) (w : World) : ∀ ss : List ByteArray, (List.mapM ((fun c => FmtStop.value name FmtStop.depth 9 [c]) ∘ Value.string) ss).run Ybaf.prog w = .ok (ss.map fun s => FmtStop.pack s.data.toList) w
  | [] => by simp [List.mapM_nil]
  | x :: xs => by
    have ih := values9 name w xs
    have h := value9 name x w
    simp [List.mapM_cons, h, ih, Result.andThen]

theorem op25 (name : String) (a : Addr) (cap : Nat) (ss : List ByteArray) (w : World) (hc : ∀ j v, (ss.map Value.string)[j]? = some v → w.cell? (a.add j) = some v) :
    (FmtStop.operand name true 115 false (.iface 25 (.slice (some a) ss.length cap))).run Ybaf.prog w = .ok (shape25, 1 :: (digits 8 ss.length ++ (ss.map fun s => FmtStop.pack s.data.toList).flatten)) w := by
  have h1 : (typeStr 25).run Ybaf.prog w = .ok "[]string" w := by kernel_rfl
  have hb : (FmtStop.bare (FmtStop.asked true 115 false) 25).run Ybaf.prog w = .ok true w := by kernel_rfl
  have hs : (FmtStop.scalar 9).run Ybaf.prog w = .ok true w := by kernel_rfl
  have hy : (Extern.Stop.isByte 9).run Ybaf.prog w = .ok false w := by kernel_rfl
  have hsh : (FmtStop.shape name (FmtStop.asked true 115 false) FmtStop.depth 9).run Ybaf.prog w = .ok (12 :: FmtStop.pack "string".toUTF8.data.toList) w := by kernel_rfl
  have hl := run_loadCells_list (P := Ybaf.prog) w a (ss.map Value.string) hc
  rw [List.length_map] at hl
  have d2 : Ybaf.t25.desc = .slice 9 := rfl
  simp [FmtStop.operand, h1, hb, hs, hy, hsh, hl, values9, shape25]

end Go.Proofs.YbulkasgcFmt
