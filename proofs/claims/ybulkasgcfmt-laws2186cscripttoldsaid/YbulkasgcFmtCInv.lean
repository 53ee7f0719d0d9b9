/-
  'LawS2186CCount': what its loop keeps. Our own work over the given program.
-/
import Derived.Test.YbulkasgcFmtClone
import Derived.Deep.RegionHeldLaw
namespace Go.Proofs.YbulkasgcFmt
open Go.RowKit

/-- The numbers of a record fit. -/
structure SRec.Num (r : SRec) : Prop where
  at1 : -9223372036854775808 ≤ r.at_
  at2 : r.at_ ≤ 9223372036854775807
  sat1 : -9223372036854775808 ≤ r.sat
  sat2 : r.sat ≤ 9223372036854775807

/-- Where 'Others' is not empty its strings fill the head of a row of strings. -/
def RecOwn (w : World) (r : SRec) : Prop :=
  0 < r.on → ∃ (g : Nat) (cur : Array Value) (ss : List ByteArray), r.oa = some ⟨g, 0, none⟩ ∧ w.heap[g]? = some (.cells cur 9 (0, 0)) ∧ ss.length = r.on ∧ ∀ (j : Nat) (u : Value), (ss.map Value.string)[j]? = some u → cur[j]? = some u

/-- Rows of strings stay as they are. -/
def Keep9 (w w' : World) : Prop := ∀ (g : Nat) (cur : Array Value), w.heap[g]? = some (.cells cur 9 (0, 0)) → w'.heap[g]? = some (.cells cur 9 (0, 0))

theorem RecOwn.kept {w w' : World} {r : SRec} (h : RecOwn w r) (hk : Keep9 w w') : RecOwn w' r := by
  intro ho
  obtain ⟨g, cur, ss, h1, h2, h3, h4⟩ := h ho
  exact ⟨g, cur, ss, h1, hk g cur h2, h3, h4⟩

theorem RecOwn.ok {w : World} {r : SRec} (h : RecOwn w r) (hn : r.Num) : r.Ok w := by
  refine ⟨hn.at1, hn.at2, hn.sat1, hn.sat2, fun ho => ?_⟩
  obtain ⟨g, cur, ss, h1, h2, h3, h4⟩ := h ho
  refine ⟨_, ss, h1, h3, lt_of_block h2, fun j v hj => ?_⟩
  have e : (⟨g, 0, none⟩ : Addr).add j = ⟨g, j, none⟩ := by unfold Addr.add; split <;> simp_all
  rw [e]
  simp only [World.cell?, h2]
  simpa using h4 j v hj

theorem keep9_below {w w' : World} (h : Below w.heap.size w w') : Keep9 w w' := fun g _ hg => (h.block g (lt_of_block hg)).trans hg

theorem keep9_grown {w w' : World} {row : Option Nat} (h : w.grownBy w' row) (hr : ∀ g, row = some g → ∀ cur : Array Value, w.heap[g]? ≠ some (.cells cur 9 (0, 0))) : Keep9 w w' :=
  fun g _ hg => (h.block g (lt_of_block hg) (fun e => hr g e.symm _ hg)).trans hg

theorem keep9_setCell {w : World} {a : Addr} {cs : Array Value} {t : TypeId} (hb : w.heap[a.block]? = some (.cells cs t (0, 0))) (ht : t ≠ 9) (v : Value) : Keep9 w (w.setCell a v) := by
  intro g cur hg
  rw [Below.heap_setCell _ _ _ _ (fun e => ?_)]
  · exact hg
  · rw [e] at hg
    rw [hg] at hb
    cases hb
    exact ht rfl

/-- The cells of the first k starts, one behind the other. -/
def flat (rs : Nat → SRec) (k : Nat) : List Value := (List.range k).flatMap fun j => (rs j).cells

theorem flat_succ (rs : Nat → SRec) (k : Nat) : flat rs (k + 1) = flat rs k ++ (rs k).cells := by
  unfold flat
  rw [List.range_succ, List.flatMap_append]
  simp

theorem flat_congr {rs rs' : Nat → SRec} : ∀ {k : Nat}, (∀ j, j < k → rs j = rs' j) → flat rs k = flat rs' k
  | 0, _ => rfl
  | k + 1, h => by rw [flat_succ, flat_succ, flat_congr (fun j hj => h j (by omega)), h k (by omega)]

theorem flat_length (rs : Nat → SRec) : ∀ k, (flat rs k).length = k * 6
  | 0 => rfl
  | k + 1 => by rw [flat_succ, List.length_append, flat_length rs k]; simp [SRec.cells]; omega

theorem flat_at (rs : Nat → SRec) : ∀ (n k j : Nat) (v : Value), k < n → (rs k).cells[j]? = some v → (flat rs n)[k * 6 + j]? = some v
  | n + 1, k, j, v, hk, hj => by
    have hj6 : j < 6 := by
      have := (List.getElem?_eq_some_iff.1 hj).1
      simpa [SRec.cells] using this
    rw [flat_succ]
    by_cases h : k < n
    · rw [List.getElem?_append_left (by rw [flat_length]; omega)]
      exact flat_at rs n k j v h hj
    · obtain rfl : k = n := by omega
      rw [List.getElem?_append_right (by rw [flat_length]; omega), flat_length]
      simpa using hj

/-- THE LOOP's INVARIANT: v is the slice 's.starts': k starts of the call's own; each has as many others as the argument's, and is late just where that is. -/
def CInv (B S : Nat) (w0 w : World) (zs : Nat → SRec) (lead : Int) (k : Nat) (v : Value) : Prop :=
  (∃ rs : Nat → SRec, w.ownsRow B 31 6 v k (flat rs k) ∧ ∀ j, j < k → (rs j).on = (zs j).on ∧ (rs j).late lead = (zs j).late lead ∧ (rs j).Num ∧ RecOwn w (rs j)) ∧
  (∃ m0 m1 m2 m3 m4 : Value, w.heap[S]? = some (.cells #[m0, m1, m2, m3, m4, v] 36 (0, 0))) ∧ Below B w0 w ∧ B ≤ S

theorem CInv.kept {B S : Nat} {w0 w w' : World} {zs : Nat → SRec} {lead : Int} {k : Nat} {v : Value} (h : CInv B S w0 w zs lead k v) (hb : Below w.heap.size w w') : CInv B S w0 w' zs lead k v := by
  obtain ⟨⟨rs, ho, hr⟩, ⟨m0, m1, m2, m3, m4, hS⟩, hB, hBS⟩ := h
  refine ⟨⟨rs, ho.kept (grown_of_below hb) (by cases v.ownBlock <;> simp), fun j hj => ?_⟩, ⟨m0, m1, m2, m3, m4, (hb.block S (lt_of_block hS)).trans hS⟩, hB.trans (hb.mono ?_), hBS⟩
  · obtain ⟨h1, h2, h3, h4⟩ := hr j hj
    exact ⟨h1, h2, h3, h4.kept (keep9_below hb)⟩
  · have := lt_of_block hS
    omega

theorem cnt_congr {rs zs : Nat → SRec} {lead : Int} : ∀ {k : Nat}, (∀ j, j < k → (rs j).on = (zs j).on ∧ (rs j).late lead = (zs j).late lead) → cnt rs lead k = cnt zs lead k
  | 0, _ => rfl
  | k + 1, h => by
    unfold cnt
    rw [cnt_congr (fun j hj => h j (by omega)), (h k (by omega)).1, (h k (by omega)).2]

/-- A start more: the slice has grown into v' and has been stored. -/
theorem CInv.push {B S : Nat} {w0 w w1 : World} {zs : Nat → SRec} {lead : Int} {k : Nat} {v v' : Value} {r : SRec} (h : CInv B S w0 w zs lead k v) {rs : Nat → SRec} (ho : w.ownsRow B 31 6 v k (flat rs k))
    (hr : ∀ j, j < k → (rs j).on = (zs j).on ∧ (rs j).late lead = (zs j).late lead ∧ (rs j).Num ∧ RecOwn w (rs j)) (h1 : r.on = (zs k).on) (h2 : r.late lead = (zs k).late lead) (h3 : r.Num) (h4 : RecOwn w r)
    (ho1 : w1.ownsRow B 31 6 v' (k + 1) (flat rs k ++ r.cells)) (hg : w.grownBy w1 v.ownBlock) : CInv B S w0 (w1.setCell ⟨S, 5, none⟩ v') zs lead (k + 1) v' := by
  obtain ⟨_, ⟨m0, m1, m2, m3, m4, hS⟩, hB, hBS⟩ := h
  have hrow : ∀ g, v.ownBlock = some g → B ≤ g ∧ ∃ cur, w.heap[g]? = some (.cells cur 31 (0, 0)) := by
    intro g hg'
    obtain ⟨_, h | ⟨g', cp, cur, rfl, hBg, hh, _⟩⟩ := ho
    · rw [h.1] at hg'; cases hg'
    · simp [Value.ownBlock] at hg'
      subst hg'
      exact ⟨hBg, cur, hh⟩
  have hSl := lt_of_block hS
  have hS1 : w1.heap[S]? = some (.cells #[m0, m1, m2, m3, m4, v] 36 (0, 0)) := (hg.block S hSl (fun e => by
    obtain ⟨_, cur, hc⟩ := hrow S e.symm
    rw [hS] at hc
    cases hc)).trans hS
  have hv' : v'.ownBlock ≠ some S := by
    intro e
    obtain ⟨_, h | ⟨g', cp, cur, rfl, hBg, hh, _⟩⟩ := ho1
    · omega
    · simp [Value.ownBlock] at e
      rw [e, hS1] at hh
      cases hh
  have k1 : Keep9 w w1 := keep9_grown hg (fun g hg' _ hc => by
    obtain ⟨_, cur', hc'⟩ := hrow g hg'
    rw [hc] at hc'
    cases hc')
  have k2 : Keep9 w1 (w1.setCell ⟨S, 5, none⟩ v') := keep9_setCell (a := ⟨S, 5, none⟩) hS1 (by decide) v'
  have kk : ∀ {q : SRec}, RecOwn w q → RecOwn (w1.setCell ⟨S, 5, none⟩ v') q := fun hq => (hq.kept k1).kept k2
  refine ⟨⟨fun j => if j = k then r else rs j, ?_, fun j hj => ?_⟩, ⟨m0, m1, m2, m3, m4, ?_⟩, ?_, hBS⟩
  · rw [flat_succ, flat_congr (rs' := rs) (fun j hj => if_neg (by omega)), if_pos rfl]
    exact ownsRow_setCell_other ho1 hv' _
  · by_cases e : j = k
    · subst e
      dsimp only
      rw [if_pos rfl]
      exact ⟨h1, h2, h3, kk h4⟩
    · dsimp only
      rw [if_neg e]
      obtain ⟨q1, q2, q3, q4⟩ := hr j (by omega)
      exact ⟨q1, q2, q3, kk q4⟩
  · simp only [World.setCell, Array.getElem?_modify, hS1]
    simp
  · exact (hB.grown hg (by omega) (fun g hg' => (hrow g hg').1)).setCell hBS _

/-- 'append' as one step of a region that draws its order, where the slice is the call's own. -/
theorem step_append_own {P : Program} {ops : Array Oper} {o : Oper} {a : Act} {w : World} {K : Act → World → Prop} {Q : Exit → Act → World → Prop} {E : Prop}
    (hg : o.guard = none) (s x : Operand) (t : TypeId) (hop : o.op = Op.call { callee := Callee.builtin Builtin.append, args := #[s, x], argTypes := #[t, t] })
    (base : Nat) (e : TypeId) (i : TypeInfo) (z : Value) (size bytes : Nat) (h1 : P.underlying t = some (.slice e)) (h2 : P.info? e = some i) (h3 : i.zero = some z) (h4 : i.size = size) (h5 : i.bytes = bytes) (h6 : z.cells.size = size) (h7 : 0 < size)
    (v : Value) (n : Nat) (xs : List Value) (hs : a.eval s = v) (hown : w.ownsRow base e size v n xs)
    (ad : Addr) (m c : Nat) (news : List Value) (hx : a.eval x = .slice (some ad) m c) (hn : news.length = m * size) (hc : ∀ j u, news[j]? = some u → w.cell? (ad.add j) = some u) (h1c : ∀ u ∈ news, u.oneCell' = true)
    (b1 : n + m ≤ maxLen) (b2 : (n + m) * bytes ≤ 140737488355328) (hbase : base ≤ w.heap.size)
    (hK : ∀ v' w', w'.ownsRow base e size v' (n + m) (xs ++ news) → w.grownBy w' v.ownBlock → K (a.put o.dst v') w') :
    if Region.wanted o (yielded ops a.tmps) = true then Oper.wp P o a w K Q else E := by
  have hw : Region.wanted o (yielded ops a.tmps) = true := by simp [Region.wanted, hg]
  rw [if_pos hw]
  obtain ⟨v', w', hrun, r1, r2, _⟩ := run_append_own (P := P) w base t o.type e i z size bytes h1 h2 h3 h4 h5 h6 h7 v n xs hown ad m c news hn hc h1c b1 b2 hbase
  unfold Oper.wp
  simp [execOp, hop, resolve, invoke, builtin, hs, hx, hrun, Result.andThen]
  exact hK v' w' r1 r2

end Go.Proofs.YbulkasgcFmt
