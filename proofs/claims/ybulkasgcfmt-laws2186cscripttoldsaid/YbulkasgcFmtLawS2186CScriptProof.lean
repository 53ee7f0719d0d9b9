/-
  'Rows.LawS2186CScriptToldSaid': the told card. The walk: YbulkasgcFmtScript.lean. fmt's texts are told by a function of the authors' own (tested against real Go, not proved from fmt's source). Our own work over the given program.
-/
import Derived.Test.YbulkasgcFmtCards
import Derived.Test.YbulkasgcFmtCOpen
import Derived.Test.YbulkasgcFmtScript
import Derived.SevenToldRow
import Derived.WalkKit
import Derived.ProofKit
import Derived.OpenShut
import Derived.ChangeOld
import Derived.Below
namespace Go.Proofs.YbulkasgcFmt.lawS2186CScript
open Go.ChangeShapes Go.WideShapes Go.ChangeAt Go.RowKit Go.Deep
set_option linter.unusedVariables false

theorem own : ownKnob Ybaf.prog.godebug = none := by kernel_rfl
theorem laidOut : laidOutB Ybaf.prog = true := by kernel_rfl
theorem stops : Ybaf.pinned.checked.prog.stops = ["fmt.errorf, its operands' methods called"] := by kernel_rfl
theorem stopKnobs : Ybaf.pinned.checked.prog.stopKnobs = [] := by kernel_rfl
theorem quiet (os : Os) : Stop.quiet Ybaf.pinned.checked.prog os := by
  intro k hk
  rw [stopKnobs] at hk
  cases hk
theorem cells44 : Ybaf.prog.cellsOf 44 = 3 := by kernel_rfl
theorem cells5 : Ybaf.prog.cellsOf 5 = 1 := by kernel_rfl

theorem u8_bounds {n : Int} (h : (Lit.int .u8 n).wf = true) : 0 ≤ n ∧ n ≤ 255 := by
  simp [Lit.wf, IntKind.min, IntKind.max, IntKind.signed, IntKind.bits] at h
  omega

theorem three {α : Type} : ∀ {l : List α}, l.length = 3 → ∃ a b c, l = [a, b, c]
  | [a, b, c], _ => ⟨a, b, c, rfl⟩

section
variable {H : Type} {enc : TypeId × Value → H} {w : World}

/-- One operation. -/
theorem open_op {n : Nat} {cs : List Value} {x : DataW H × List MemPlace} (h : DataW.trod enc Ybaf.prog w 0 (fun _ => true) true n 44 cs = some x) :
    ∃ q : Int × Int × Int, cs = [.int .u8 q.1, .int .u8 q.2.1, .int .u8 q.2.2] ∧ (0 ≤ q.1 ∧ q.1 ≤ 255) ∧ (0 ≤ q.2.1 ∧ q.2.1 ≤ 255) ∧ (0 ≤ q.2.2 ∧ q.2.2 ≤ 255) := by
  obtain ⟨xs, k, _, rfl, hlen, hxl, hf⟩ := DataW.trod_struct Ybaf.underlying44 h
  rw [cells44] at hlen
  obtain ⟨y0, y1, y2, rfl⟩ := three hxl
  obtain ⟨c0, c1, c2, rfl⟩ := three hlen
  have g0 := hf 0 _ rfl
  have g1 := hf 1 _ rfl
  have g2 := hf 2 _ rfl
  simp [cells5] at g0 g1 g2
  obtain ⟨a0, e0, _, w0⟩ := DataW.trod_int Ybaf.underlying5 g0
  obtain ⟨a1, e1, _, w1⟩ := DataW.trod_int Ybaf.underlying5 g1
  obtain ⟨a2, e2, _, w2⟩ := DataW.trod_int Ybaf.underlying5 g2
  simp only [List.cons.injEq, and_true] at e0 e1 e2
  subst e0 e1 e2
  exact ⟨(a0, a1, a2), rfl, u8_bounds w0, u8_bounds w1, u8_bounds w2⟩

/-- The argument, opened. -/
theorem open_ops {ao : Option Addr} {n cap : Nat} {d : DataW H} {p : List MemPlace} (h : DataW.Trod enc Ybaf.prog w 0 (fun _ => true) true 42 (.slice ao n cap) d p) :
    n ≤ maxLen ∧ ∃ ops : Nat → Int × Int × Int, OpRow w ao n ops := by
  obtain ⟨fuel, hf⟩ := h
  rcases open_slice Ybaf.underlying42 hf with ⟨hcs, _⟩ | ⟨a, len, cap', m, nn, D, Pl, hcs, _, hl, hm, hmm, hx, hel⟩
  · simp [Value.cells] at hcs
    obtain ⟨rfl, rfl, rfl⟩ := hcs
    exact ⟨Nat.zero_le _, fun _ => (0, 0, 0), fun h => absurd h (by omega), fun k hk => absurd hk (by omega)⟩
  · simp [Value.cells] at hcs
    obtain ⟨rfl, rfl, rfl⟩ := hcs
    obtain rfl : m = cap := by simpa using hmm
    refine ⟨by omega, ?_⟩
    obtain ⟨q, hq⟩ := choose_lt (n := n) (p := fun i (q : Int × Int × Int) => w.cells? 0 (a.add (i * 3)) 3 = some [.int .u8 q.1, .int .u8 q.2.1, .int .u8 q.2.2] ∧ (0 ≤ q.1 ∧ q.1 ≤ 255) ∧ (0 ≤ q.2.1 ∧ q.2.1 ≤ 255) ∧ (0 ≤ q.2.2 ∧ q.2.2 ≤ 255)) (fun i hi => by
      obtain ⟨cs', h1, h2⟩ := hel i (by omega)
      obtain ⟨q, rfl, hn⟩ := open_op h2
      rw [cells44] at h1
      exact ⟨q, h1, hn⟩)
    have hcell : ∀ k, k < n → w.cell? (a.add (k * 3 + 0)) = some (.int .u8 (q k).1) ∧ w.cell? (a.add (k * 3 + 1)) = some (.int .u8 (q k).2.1) ∧ w.cell? (a.add (k * 3 + 2)) = some (.int .u8 (q k).2.2) := by
      intro k hk
      obtain ⟨_, hlen, hc⟩ := World.cells?_some (hq k hk).1
      have e0 := hc 0 (by omega)
      have e1 := hc 1 (by omega)
      have e2 := hc 2 (by omega)
      rw [add_add] at e0 e1 e2
      exact ⟨e0, e1, e2⟩
    refine ⟨q, fun hp => ?_, fun k hk => (hq k hk).2⟩
    obtain ⟨b, off, spot⟩ := a
    have h00 := (hcell 0 hp).1
    have hspot : spot = none := by simpa [Addr.add] using World.cell?_spot h00
    subst hspot
    refine ⟨b, off, rfl, lt_of_cell h00, fun k hk => ?_⟩
    obtain ⟨e0, e1, e2⟩ := hcell k hk
    rw [add_plain] at e0 e1 e2
    exact ⟨e0, e1, e2⟩
end

abbrev spec : OpenSpec := OpenSpec.ofChange Rows.lawS2186CScriptSpec

set_option maxRecDepth 100000 in
theorem lifted (os : Os) (started : os.Started) (H : Type) (enc : TypeId × Value → H) :
    ReturnsInTold none {} Ybaf.checked os 4 .any Input.okWide (spec.preRow enc Ybaf.prog Ybaf.f4 [] false []) (fun F => (spec.at F).post enc Ybaf.prog Ybaf.f4 false true false false) (aloneAtReturn Ybaf.prog) nothingAlways := by
  refine returnsInTold_of_row (C := Ybaf.checked) (s := spec) (by kernel_rfl) own started (by kernel_rfl) Ybaf.func4
    (OpenSpec.witness_stopped (enc := enc) (C := Ybaf.checked) false ⟨#[], #[.slice none 0 0], []⟩ 8 (by kernel_rfl) (by kernel_rfl) (by kernel_rfl) (by kernel_rfl)) ?_
  intro F W base args ds gs before _ hF hval0 hW _ _ _ _ _
  have hval : ∀ (j : Nat) t v, Ybaf.f4.params[j]? = some t → args[j]? = some v → Value.okWide Ybaf.prog W .any base t v := hval0
  have hW' := hW
  obtain ⟨p, q, hA0, hV, rfl, hfz, hnd⟩ := hW
  have hA : DataW.TrodAll enc Ybaf.prog W 0 (fun _ => true) true Ybaf.f4.params.toList args.toList ds p := hA0
  rw [Ybaf.params4] at hA hval
  obtain ⟨v0, vs0, d0, ds0, p0, q0, hargs, rfl, rfl, h0, r0⟩ := trodAll_cons hA
  obtain ⟨rfl, rfl, rfl⟩ := trodAll_nil r0
  obtain rfl : args = #[v0] := by cases args; simp_all
  obtain ⟨rfl, rfl⟩ := trodVars_none hV
  obtain ⟨ao, len, cap, rfl⟩ := okWide_slice Ybaf.underlying42 (hval 0 42 v0 rfl rfl)
  have k0 := h0
  have lt0 : ∀ x ∈ p0, x.block < W.heap.size := by obtain ⟨m, hm⟩ := k0; exact DataW.trod_lt m _ _ _ hm
  obtain ⟨hml, ops, hsrc⟩ := open_ops h0
  clear hA0 hval0
  refine (walkS ao len cap ops W hml hsrc).mono fun e W' ⟨he, bel⟩ => ?_
  subst he
  exact ⟨_, rfl, _, _, _, [], _, [], hW', trodAll_mk1 (shut_bool Ybaf.underlying4 _), (trodAll_cons_mk (Below.trod laidOut (by kernel_rfl) (of_decide_eq_true (by kernel_rfl)) k0 bel lt0) trodAll_mk0), rfl, bel.frame _, fun h => by cases h⟩

/-- THE STATEMENT -/
theorem proved : Rows.LawS2186CScriptToldSaid :=
  Claim7.holds_of_told_any 4 Ybaf.f4 "fmt.errorf, its operands' methods called" [] [] _ _ _ (by kernel_rfl) rfl rfl rfl laidOut (by kernel_rfl) rfl ⟨rfl, rfl, rfl, rfl, rfl, rfl, rfl⟩ rfl rfl (by kernel_rfl) (by kernel_rfl) Ybaf.func4 (by kernel_rfl)
    (of_decide_eq_true (by kernel_rfl)) (by unfold Func.isWrapper; first | (rw [if_pos (by decide +kernel)]; kernel_rfl) | (rw [if_neg (by decide +kernel)]; exact ⟨rfl, rfl⟩)) stops.symm rfl stopKnobs.symm (by kernel_rfl)
    (by kernel_rfl) (by kernel_rfl) (by kernel_rfl) (by kernel_rfl) (by kernel_rfl) (by kernel_rfl) (by kernel_rfl) (by kernel_rfl) (by kernel_rfl) rfl (by kernel_rfl) rfl rfl
    rfl rfl
    rfl (by kernel_rfl) (by kernel_rfl) (by kernel_rfl) (by decide) (by kernel_rfl)
    (OpenClaim.moreEntering_of (by kernel_rfl) (by kernel_rfl) (by kernel_rfl) (by kernel_rfl) (by kernel_rfl) (by kernel_rfl) (by kernel_rfl) (by kernel_rfl) (by kernel_rfl) (by kernel_rfl))
    ⟨_, WideRow.started_initial, quiet _⟩
    (fun os started _ H enc _ => lifted os started H enc)
#print axioms proved
end Go.Proofs.YbulkasgcFmt.lawS2186CScript
