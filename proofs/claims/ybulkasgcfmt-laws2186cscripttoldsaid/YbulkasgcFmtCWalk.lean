/-
  'LawS2186CCount': the walk. Our own work over the given program.
-/
import Derived.Test.YbulkasgcFmtCInv
namespace Go.Proofs.YbulkasgcFmt
open Go.RowKit

theorem info31 : (Ybaf.prog.info? 31).map (fun i => (i.zero, i.size, i.bytes)) = some (some (.agg #[.string ⟨#[]⟩, .int .i64 0, .slice none 0 0, .string ⟨#[]⟩, .int .i64 0, .bool false]), 6, 80) := by kernel_rfl

/-- What is known of the slice of records that came in. -/
structure SrcRow (w : World) (ao : Option Addr) (n : Nat) (zs : Nat → SRec) (sss : Nat → List ByteArray) : Prop where
  row : 0 < n → ∃ b off, ao = some ⟨b, off, none⟩ ∧ b < w.heap.size ∧ ∀ k, k < n → ∀ j v, (zs k).cells[j]? = some v → w.cell? ⟨b, off + k * 6 + j, none⟩ = some v
  num : ∀ k, k < n → (zs k).Num
  src : ∀ k, k < n → SrcOk w (zs k).oa (zs k).on (zs k).oc (sss k)

theorem bcell {W w1 : World} (hb : Below W.heap.size W w1) : (∀ b o, b < W.heap.size → w1.cell? ⟨b, o, none⟩ = W.cell? ⟨b, o, none⟩) ∧ (∀ b o, b < W.heap.size → w1.frozen? ⟨b, o, none⟩ = W.frozen? ⟨b, o, none⟩) :=
  ⟨fun b o h => hb.cell (p := ⟨b, o, none⟩) h, fun b o h => hb.frozen (p := ⟨b, o, none⟩) h⟩

/-- The cells of the argument's record, boxed. -/
abbrev ZB (z : SRec) : Obj := .cells #[.string z.node, .int .i64 z.at_, .slice z.oa z.on z.oc, .string z.stopped, .int .i64 z.sat, .bool z.sby] 27
abbrev Z31 : Obj := .cells #[.string ⟨#[]⟩, .int .i64 0, .slice none 0 0, .string ⟨#[]⟩, .int .i64 0, .bool false] 31

/-- The record's six cells. -/
abbrev ZAt (w : World) (T : Nat) (z : SRec) : Prop := w.cell? ⟨T, 0, none⟩ = some (.string z.node) ∧ w.cell? ⟨T, 1, none⟩ = some (.int .i64 z.at_) ∧ w.cell? ⟨T, 2, none⟩ = some (.slice z.oa z.on z.oc) ∧ w.cell? ⟨T, 3, none⟩ = some (.string z.stopped) ∧ w.cell? ⟨T, 4, none⟩ = some (.int .i64 z.sat) ∧ w.cell? ⟨T, 5, none⟩ = some (.bool z.sby)

theorem zAt_alloc (w : World) (z : SRec) : ZAt (w.alloc (ZB z)) w.heap.size z := by simp [ZAt]

theorem ZAt.kept {W w2 : World} {T : Nat} {z : SRec} (h : ZAt W T z) (hb : Below W.heap.size W w2) (hT : T < W.heap.size) : ZAt w2 T z := by
  obtain ⟨h1, h2⟩ := bcell hb
  unfold ZAt
  rw [h1 T 0 hT, h1 T 1 hT, h1 T 2 hT, h1 T 3 hT, h1 T 4 hT, h1 T 5 hT]
  exact h

/-- 'slices.Clone' of the record's others, told in all that the region wants. -/
theorem clone_z (z : SRec) (ss : List ByteArray) (T : Nat) (W w0 : World) (src : SrcOk w0 z.oa z.on z.oc ss) (hb : Below w0.heap.size w0 W) (hT : T < W.heap.size) (hz : ZAt W T z) :
    Calls Ybaf.prog 6 #[.slice z.oa z.on z.oc] W fun e w' => ∃ oa oc, e = .returned (.slice oa z.on oc) ∧ RecOwn w' { z with oa := oa, oc := oc } ∧ Below W.heap.size W w' ∧ ZAt w' T z ∧ T < w'.heap.size := by
  refine (clone_any z.oa z.on z.oc ss W w0 src hb).mono ?_
  rintro e w' ⟨⟨v, rfl, oa, oc, rfl, h⟩, hb'⟩
  refine ⟨oa, oc, by rw [src.1], fun ho => ?_, hb', hz.kept hb' hT, Nat.lt_of_lt_of_le hT hb'.size⟩
  have ho' : 0 < ss.length := by rw [src.1]; exact ho
  obtain ⟨g, cur, h1, _, h3, h4⟩ := h ho'
  exact ⟨g, cur, ss, h1, h3, src.1, h4⟩

/-- .. where the new record's variable has been made ahead of it. -/
theorem clone_z2 (z : SRec) (ss : List ByteArray) (wr w0 : World) (src : SrcOk w0 z.oa z.on z.oc ss) (hb : Below w0.heap.size w0 ((wr.alloc (ZB z)).alloc Z31).drew) (hz : ZAt ((wr.alloc (ZB z)).alloc Z31).drew wr.heap.size z) :
    Calls Ybaf.prog 6 #[.slice z.oa z.on z.oc] ((wr.alloc (ZB z)).alloc Z31).drew fun e w' => ∃ oa oc, e = .returned (.slice oa z.on oc) ∧ RecOwn w' { z with oa := oa, oc := oc } ∧ Below ((wr.alloc (ZB z)).alloc Z31).drew.heap.size ((wr.alloc (ZB z)).alloc Z31).drew w' ∧ ZAt w' wr.heap.size z ∧
      (w'.cell? ⟨wr.heap.size + 1, 0, none⟩ = some (.string ⟨#[]⟩) ∧ w'.cell? ⟨wr.heap.size + 1, 1, none⟩ = some (.int .i64 0) ∧ w'.cell? ⟨wr.heap.size + 1, 2, none⟩ = some (.slice none 0 0) ∧ w'.cell? ⟨wr.heap.size + 1, 3, none⟩ = some (.string ⟨#[]⟩) ∧ w'.cell? ⟨wr.heap.size + 1, 4, none⟩ = some (.int .i64 0) ∧ w'.cell? ⟨wr.heap.size + 1, 5, none⟩ = some (.bool false)) ∧
      (w'.frozen? ⟨wr.heap.size + 1, 0, none⟩ = false ∧ w'.frozen? ⟨wr.heap.size + 1, 1, none⟩ = false ∧ w'.frozen? ⟨wr.heap.size + 1, 2, none⟩ = false ∧ w'.frozen? ⟨wr.heap.size + 1, 3, none⟩ = false ∧ w'.frozen? ⟨wr.heap.size + 1, 4, none⟩ = false ∧ w'.frozen? ⟨wr.heap.size + 1, 5, none⟩ = false) := by
  refine (clone_z z ss wr.heap.size _ w0 src hb (by simp; omega) hz).mono ?_
  rintro e w' ⟨oa, oc, rfl, h1, h2, h3, _⟩
  obtain ⟨g1, g2⟩ := bcell h2
  have hT : wr.heap.size + 1 < ((wr.alloc (ZB z)).alloc Z31).drew.heap.size := by simp
  refine ⟨oa, oc, rfl, h1, h2, h3, ?_, ?_⟩
  · rw [g1 _ _ hT, g1 _ _ hT, g1 _ _ hT, g1 _ _ hT, g1 _ _ hT, g1 _ _ hT]
    have e : ∀ o, ((wr.alloc (ZB z)).alloc Z31).drew.cell? ⟨wr.heap.size + 1, o, none⟩ = #[Value.string ⟨#[]⟩, .int .i64 0, .slice none 0 0, .string ⟨#[]⟩, .int .i64 0, .bool false][o]? := fun o => World.cell?_alloc_at _ _ _ _ (by simp)
    simp [e]
  · rw [g2 _ _ hT, g2 _ _ hT, g2 _ _ hT, g2 _ _ hT, g2 _ _ hT, g2 _ _ hT]
    have e : ∀ o, ((wr.alloc (ZB z)).alloc Z31).drew.frozen? ⟨wr.heap.size + 1, o, none⟩ = false := fun o => World.frozen?_alloc_at _ _ _ _ (by simp)
    simp [e]

/-- Six stores that fill a variable of six cells. -/
abbrev fill6 (w : World) (T : Nat) (u0 u1 u2 u3 u4 u5 : Value) : World := (((((w.setCell ⟨T, 0, none⟩ u0).setCell ⟨T, 1, none⟩ u1).setCell ⟨T, 2, none⟩ u2).setCell ⟨T, 3, none⟩ u3).setCell ⟨T, 4, none⟩ u4).setCell ⟨T, 5, none⟩ u5

theorem fill6_block {w : World} {T : Nat} {a0 a1 a2 a3 a4 a5 : Value} (h : w.heap[T]? = some (.cells #[a0, a1, a2, a3, a4, a5] 31 (0, 0))) (u0 u1 u2 u3 u4 u5 : Value) : (fill6 w T u0 u1 u2 u3 u4 u5).heap[T]? = some (.cells #[u0, u1, u2, u3, u4, u5] 31 (0, 0)) := by
  simp only [fill6, World.setCell, Array.getElem?_modify, h]
  simp

theorem fill6_other (w : World) (T : Nat) (u0 u1 u2 u3 u4 u5 : Value) (g : Nat) (hg : g ≠ T) : (fill6 w T u0 u1 u2 u3 u4 u5).heap[g]? = w.heap[g]? := by
  simp only [fill6]
  rw [Below.heap_setCell _ _ _ _ hg, Below.heap_setCell _ _ _ _ hg, Below.heap_setCell _ _ _ _ hg, Below.heap_setCell _ _ _ _ hg, Below.heap_setCell _ _ _ _ hg, Below.heap_setCell _ _ _ _ hg]

theorem meetB {B S : Nat} {w0 wr w2 : World} {z : SRec} {oa : Option Addr} {oc k : Nat} {zs : Nat → SRec} {lead : Int} {v : Value} (G : CInv B S w0 wr zs lead k v) (hro : RecOwn w2 { z with oa := oa, oc := oc })
    (hb : Below ((wr.alloc (ZB z)).alloc Z31).drew.heap.size ((wr.alloc (ZB z)).alloc Z31).drew w2) (hz : ZAt w2 wr.heap.size z) :
    ∃ (T2 : Nat) (oa' : Option Addr) (oc' : Nat), Value.pointer (some ⟨wr.heap.size + 1, 0, none⟩) = .pointer (some ⟨T2, 0, none⟩) ∧ (fill6 w2 (wr.heap.size + 1) (.string z.node) (.int .i64 z.at_) (.slice oa z.on oc) (.string z.stopped) (.int .i64 z.sat) (.bool z.sby)).heap[T2]? = some (.cells #[.string z.node, .int .i64 z.at_, .slice oa' z.on oc', .string z.stopped, .int .i64 z.sat, .bool z.sby] 31 (0, 0)) ∧
      RecOwn (fill6 w2 (wr.heap.size + 1) (.string z.node) (.int .i64 z.at_) (.slice oa z.on oc) (.string z.stopped) (.int .i64 z.sat) (.bool z.sby)) { z with oa := oa', oc := oc' } ∧ ZAt (fill6 w2 (wr.heap.size + 1) (.string z.node) (.int .i64 z.at_) (.slice oa z.on oc) (.string z.stopped) (.int .i64 z.sat) (.bool z.sby)) wr.heap.size z ∧
      CInv B S w0 (fill6 w2 (wr.heap.size + 1) (.string z.node) (.int .i64 z.at_) (.slice oa z.on oc) (.string z.stopped) (.int .i64 z.sat) (.bool z.sby)) zs lead k v := by
  have hs : (wr.alloc (ZB z)).heap.size = wr.heap.size + 1 := by simp
  have h2 : w2.heap[wr.heap.size + 1]? = some Z31 := by
    rw [hb.block _ (by simp)]
    have := (MapKept.heap_alloc (wr.alloc (ZB z)) Z31).1
    rw [hs] at this
    exact this
  have hoth := fill6_other w2 (wr.heap.size + 1) (.string z.node) (.int .i64 z.at_) (.slice oa z.on oc) (.string z.stopped) (.int .i64 z.sat) (.bool z.sby)
  refine ⟨_, oa, oc, rfl, fill6_block h2 _ _ _ _ _ _, hro.kept fun g cur hg => ?_, ?_, G.kept ?_⟩
  · rw [hoth g (fun e => by rw [e, h2] at hg; cases hg)]
    exact hg
  · have e : ∀ o, (fill6 w2 (wr.heap.size + 1) (.string z.node) (.int .i64 z.at_) (.slice oa z.on oc) (.string z.stopped) (.int .i64 z.sat) (.bool z.sby)).cell? ⟨wr.heap.size, o, none⟩ = w2.cell? ⟨wr.heap.size, o, none⟩ := fun o => World.cell?_of_block (a := ⟨wr.heap.size, o, none⟩) (hoth _ (by simp))
    simp only [ZAt, e]
    exact hz
  · have hb0 : Below wr.heap.size wr w2 := ((((Below.refl _ wr).alloc (Nat.le_refl _) (ZB z)).alloc (by simp) Z31).drew).trans (hb.mono (by simp; omega))
    exact (((((hb0.setCell (Nat.le_succ _) _).setCell (Nat.le_succ _) _).setCell (Nat.le_succ _) _).setCell (Nat.le_succ _) _).setCell (Nat.le_succ _) _).setCell (Nat.le_succ _) _

theorem meetA {B S : Nat} {w0 wr w2 : World} {z : SRec} {oa : Option Addr} {oc k : Nat} {zs : Nat → SRec} {lead : Int} {v : Value} (G : CInv B S w0 wr zs lead k v) (hro : RecOwn w2 { z with oa := oa, oc := oc })
    (hb : Below (wr.alloc (ZB z)).drew.heap.size (wr.alloc (ZB z)).drew w2) (hz : ZAt w2 wr.heap.size z) (hl : wr.heap.size < w2.heap.size) :
    ∃ (T2 : Nat) (oa' : Option Addr) (oc' : Nat), Value.pointer (some ⟨w2.heap.size, 0, none⟩) = .pointer (some ⟨T2, 0, none⟩) ∧ (w2.alloc (.cells #[.string z.node, .int .i64 z.at_, .slice oa z.on oc, .string z.stopped, .int .i64 z.sat, .bool z.sby] 31)).heap[T2]? = some (.cells #[.string z.node, .int .i64 z.at_, .slice oa' z.on oc', .string z.stopped, .int .i64 z.sat, .bool z.sby] 31 (0, 0)) ∧
      RecOwn (w2.alloc (.cells #[.string z.node, .int .i64 z.at_, .slice oa z.on oc, .string z.stopped, .int .i64 z.sat, .bool z.sby] 31)) { z with oa := oa', oc := oc' } ∧ ZAt (w2.alloc (.cells #[.string z.node, .int .i64 z.at_, .slice oa z.on oc, .string z.stopped, .int .i64 z.sat, .bool z.sby] 31)) wr.heap.size z ∧
      CInv B S w0 (w2.alloc (.cells #[.string z.node, .int .i64 z.at_, .slice oa z.on oc, .string z.stopped, .int .i64 z.sat, .bool z.sby] 31)) zs lead k v := by
  have hb0 : Below wr.heap.size wr w2 := (((Below.refl _ wr).alloc (Nat.le_refl _) (ZB z)).drew).trans (hb.mono (by simp))
  have ha := (Below.refl w2.heap.size w2).alloc (Nat.le_refl _) (.cells #[.string z.node, .int .i64 z.at_, .slice oa z.on oc, .string z.stopped, .int .i64 z.sat, .bool z.sby] 31)
  exact ⟨_, oa, oc, rfl, (MapKept.heap_alloc w2 _).1, hro.kept (keep9_below ha), hz.kept ha hl, (G.kept hb0).kept ha⟩

/-- The one new record that is appended, as its cells. -/
abbrev NB (z : SRec) (oa : Option Addr) (oc : Nat) : Obj := .cells #[.string z.node, .int .i64 z.at_, .slice oa z.on oc, .string z.stopped, .int .i64 z.sat, .bool z.sby] 31

theorem news_at (w : World) (z : SRec) (oa : Option Addr) (oc : Nat) : ∀ j u, ({ z with oa := oa, oc := oc } : SRec).cells[j]? = some u → (w.alloc (NB z oa oc)).drew.cell? ((⟨w.heap.size, 0, none⟩ : Addr).add j) = some u := by
  intro j u hj
  have e : (⟨w.heap.size, 0, none⟩ : Addr).add j = ⟨w.heap.size, j, none⟩ := by unfold Addr.add; split <;> simp_all
  rw [e]
  have h : (w.alloc (NB z oa oc)).drew.cell? ⟨w.heap.size, j, none⟩ = #[Value.string z.node, .int .i64 z.at_, .slice oa z.on oc, .string z.stopped, .int .i64 z.sat, .bool z.sby][j]? := World.cell?_alloc_at _ _ _ _ rfl
  rw [h]
  simpa [SRec.cells] using hj

theorem news_one (r : SRec) : ∀ u ∈ r.cells, u.oneCell' = true := by
  intro u hu
  simp only [SRec.cells, List.mem_cons, List.not_mem_nil, or_false] at hu
  rcases hu with rfl | rfl | rfl | rfl | rfl | rfl <;> rfl

/-- The receiver's block behind the append. -/
theorem s_after {B S : Nat} {w0 w w1 : World} {zs : Nat → SRec} {lead : Int} {k : Nat} {v : Value} {o : Obj} {xs : List Value} (G : CInv B S w0 w zs lead k v) (ho : w.ownsRow B 31 6 v k xs) (hg : (w.alloc o).drew.grownBy w1 v.ownBlock) : w1.cell? ⟨S, 5, none⟩ = some v ∧ w1.frozen? ⟨S, 5, none⟩ = false := by
  obtain ⟨_, ⟨m0, m1, m2, m3, m4, hS⟩, _, _⟩ := G
  have hSl := lt_of_block hS
  have h1 : w1.heap[S]? = some (.cells #[m0, m1, m2, m3, m4, v] 36 (0, 0)) := by
    refine (hg.block S (by simp; omega) (fun e => ?_)).trans ((Below.heap_alloc _ _ _ hSl).trans hS)
    obtain ⟨_, h | ⟨g', cp, cur, rfl, hBg, hh, _⟩⟩ := ho
    · rw [h.1] at e; cases e
    · simp [Value.ownBlock] at e
      rw [← e, hS] at hh
      cases hh
  constructor
  · simp [World.cell?, h1]
  · simp [World.frozen?, h1]

theorem own_shape {w : World} {B e size k : Nat} {v : Value} {xs : List Value} (h : w.ownsRow B e size v (k + 1) xs) : ∃ g cp, v = .slice (some ⟨g, 0, none⟩) (k + 1) cp := by
  obtain ⟨_, h | ⟨g, cp, cur, rfl, _⟩⟩ := h
  · omega
  · exact ⟨g, cp, rfl⟩

theorem cinv_start (w : World) (zs : Nat → SRec) (lead : Int) :
    CInv w.heap.size (w.heap.size + 5) w ((((((w.alloc (.map #[] 0)).alloc (.map #[] 0)).alloc (.map #[] 0)).alloc (.map #[] 0)).alloc (.map #[] 0)).alloc (.cells #[.map (some w.heap.size), .map (some (w.heap.size + 1)), .map (some (w.heap.size + 2)), .map (some (w.heap.size + 3)), .map (some (w.heap.size + 4)), .slice none 0 0] 36)) zs lead 0 (.slice none 0 0) := by
  refine ⟨⟨zs, World.ownsRow_nil _ _ _ _, fun j hj => absurd hj (by omega)⟩, ⟨.map (some w.heap.size), .map (some (w.heap.size + 1)), .map (some (w.heap.size + 2)), .map (some (w.heap.size + 3)), .map (some (w.heap.size + 4)), ?_⟩, ?_, by omega⟩
  · have := (MapKept.heap_alloc (((((w.alloc (.map #[] 0)).alloc (.map #[] 0)).alloc (.map #[] 0)).alloc (.map #[] 0)).alloc (.map #[] 0)) (.cells #[.map (some w.heap.size), .map (some (w.heap.size + 1)), .map (some (w.heap.size + 2)), .map (some (w.heap.size + 3)), .map (some (w.heap.size + 4)), .slice none 0 0] 36)).1
    simpa using this
  · exact ((((((Below.refl _ _).alloc (Nat.le_refl _) _).alloc (by simp) _).alloc (by simp <;> omega) _).alloc (by simp <;> omega) _).alloc (by simp <;> omega) _).alloc (by simp <;> omega) _

/-- The round's end. -/
theorem push_c {B S : Nat} {w0 w w1 : World} {zs : Nat → SRec} {lead : Int} {k : Nat} {v v' : Value} {z : SRec} {oa : Option Addr} {oc : Nat} {rs : Nat → SRec} (G : CInv B S w0 w zs lead k v) (ho : w.ownsRow B 31 6 v k (flat rs k))
    (hr : ∀ j, j < k → (rs j).on = (zs j).on ∧ (rs j).late lead = (zs j).late lead ∧ (rs j).Num ∧ RecOwn w (rs j)) (hz : z = zs k) (num : z.Num) (hro : RecOwn w { z with oa := oa, oc := oc })
    (ho1 : w1.ownsRow B 31 6 v' (k + 1) (flat rs k ++ SRec.cells { z with oa := oa, oc := oc })) (hg : (w.alloc (NB z oa oc)).drew.grownBy w1 v.ownBlock) : CInv B S w0 (w1.setCell ⟨S, 5, none⟩ v') zs lead (k + 1) v' := by
  subst hz
  have hb : Below w.heap.size w (w.alloc (NB (zs k) oa oc)).drew := ((Below.refl _ w).alloc (Nat.le_refl _) _).drew
  have G' := G.kept hb
  refine CInv.push G' (r := { zs k with oa := oa, oc := oc }) (rs := rs) ((ho.alloc _).drew) (fun j hj => ?_) rfl rfl ⟨num.at1, num.at2, num.sat1, num.sat2⟩ (hro.kept (keep9_below hb)) ho1 hg
  obtain ⟨h1, h2, h3, h4⟩ := hr j hj
  exact ⟨h1, h2, h3, h4.kept (keep9_below hb)⟩

theorem check_c {B S : Nat} {w0 w : World} {zs : Nat → SRec} {lead : Int} {n : Nat} {v : Value} (G : CInv B S w0 w zs lead n v) (hl1 : -9223372036854775808 ≤ lead) (hl2 : lead ≤ 9223372036854775807) (hn : n ≤ 1024) :
    Calls Ybaf.prog 7 #[.pointer (some ⟨S, 0, none⟩), .int .i64 lead] w fun e w' => Below B w0 w' ∧
      ((cnt zs lead n = 0 ∧ e = .returned .nilIface) ∨ (0 < cnt zs lead n ∧ ∃ J a c, e = .returned (.iface 59 (.pointer (some ⟨J, 0, none⟩))) ∧ w'.cell? ⟨J, 0, none⟩ = some (.slice a (cnt zs lead n) c))) := by
  obtain ⟨⟨rs, ho, hr⟩, ⟨m0, m1, m2, m3, m4, hS⟩, hB, hBS⟩ := G
  have c5 : w.cell? ⟨S, 5, none⟩ = some v := by simp [World.cell?, hS]
  have hcg : cnt rs lead n = cnt zs lead n := cnt_congr fun j hj => ⟨(hr j hj).1, (hr j hj).2.1⟩
  obtain ⟨hlen, ⟨hv, hn0⟩ | ⟨g, cp, cur, hv, hBg, hh, hcur⟩⟩ := ho
  · subst hv
    subst hn0
    refine (check_none S 0 none lead w c5).mono ?_
    rintro e w' ⟨rfl, rfl⟩
    exact ⟨hB, .inl ⟨rfl, rfl⟩⟩
  · subst hv
    refine (check_some S g n cp rs lead w hl1 hl2 hn (lt_of_block hh) c5 ?_ (fun j hj => (hr j hj).2.2.2.ok (hr j hj).2.2.1)).mono ?_
    · intro j hj i u hu
      have := flat_at rs n j i u hj hu
      have hlt : j * 6 + i < n * 6 := by
        have := (List.getElem?_eq_some_iff.1 this).1
        omega
      rw [← hcur.2.2.2, List.getElem?_take_of_lt hlt, Array.getElem?_toList] at this
      simp only [World.cell?, hh]
      simpa using this
    · rintro e w' ⟨hb, h⟩
      rw [hcg] at h
      exact ⟨hB.trans (hb.mono (by have := lt_of_block hS; omega)), h⟩

set_option maxRecDepth 100000 in
set_option maxHeartbeats 1000000 in
theorem walkC (ao : Option Addr) (n cap : Nat) (zs : Nat → SRec) (sss : Nat → List ByteArray) (lead : Int) (w : World) (hl1 : -9223372036854775808 ≤ lead) (hl2 : lead ≤ 9223372036854775807) (hm : n ≤ maxLen) (hsrc : SrcRow w ao n zs sss) :
    Calls Ybaf.prog 3 #[.slice ao n cap, .int .i64 lead] w fun e w' => e = .returned (.bool true) ∧ Below w.heap.size w w' := by
  unfold maxLen at hm
  by_cases hn : n ≤ 1024
  case neg =>
    go_enter Ybaf.func3, Ybaf.ntmps3
    go_wp2
    go_ret
    exact ⟨rfl, Below.refl _ _⟩
  obtain ⟨i0, hi, hz0, hz1, hz2⟩ := info_parts info31
  have HS := Hid.out (p := Hid _) hsrc
  clear hsrc hm
  go_enter Ybaf.func3, Ybaf.ntmps3
  go_wp2_with fail
  refine Calls.mono (newServing_any w) ?_
  rintro e w1 ⟨rfl, rfl⟩
  go_wp2_with fail
  have G0 := cinv_start w zs lead
  go_loopg [6, 17] n (fun r want i wr => ∃ (k : Nat) (v : Value), k + r = n ∧ i = .int .i64 k ∧ want = .int .i64 (cnt zs lead k) ∧ CInv w.heap.size (w.heap.size + 5) w wr zs lead k v)
  case atStart => exact ⟨0, _, by omega, rfl, rfl, G0⟩
  case round =>
    obtain ⟨k, v, hk, rfl, rfl, G⟩ := hrel
    clear G0
    by_cases hlt : k < n
    · obtain ⟨b, off, rfl, hb, hcells⟩ := HS.out.row (by omega)
      have hbel := G.2.2.1
      have hs : ∀ j u, (zs k).cells[j]? = some u → wr.cell? ⟨b, off + k * 6 + j, none⟩ = some u := fun j u hj => (hbel.cell (p := ⟨b, off + k * 6 + j, none⟩) hb).trans (hcells k hlt j u hj)
      have num := HS.out.num k hlt
      have src := HS.out.src k hlt
      have hcl := cnt_le zs lead k
      have HCN : Hid (cnt zs lead (k + 1) = cnt zs lead k + (if 0 < (zs k).on then 1 else 0) + (if (zs k).late lead then 1 else 0)) := rfl
      obtain ⟨m, hm⟩ : ∃ m, m = cnt zs lead k := ⟨_, rfl⟩
      obtain ⟨z, hz⟩ : ∃ z, z = zs k := ⟨_, rfl⟩
      have HZ := Hid.out (p := Hid _) hz
      rw [← hm, ← hz] at HCN
      rw [← hm] at hcl ⊢
      rw [← hz] at hs num src
      have s0 : wr.cell? ⟨b, off + k * 6, none⟩ = some (.string z.node) := hs 0 _ rfl
      have s1 : wr.cell? ⟨b, off + k * 6 + 1, none⟩ = some (.int .i64 z.at_) := hs 1 _ rfl
      have s2 : wr.cell? ⟨b, off + k * 6 + 2, none⟩ = some (.slice z.oa z.on z.oc) := hs 2 _ rfl
      have s3 : wr.cell? ⟨b, off + k * 6 + 3, none⟩ = some (.string z.stopped) := hs 3 _ rfl
      have s4 : wr.cell? ⟨b, off + k * 6 + 4, none⟩ = some (.int .i64 z.sat) := hs 4 _ rfl
      have s5 : wr.cell? ⟨b, off + k * 6 + 5, none⟩ = some (.bool z.sby) := hs 5 _ rfl
      clear hs hm hz hcells HS
      go_upto_region 8 with fail
      clear s0 s1 s2 s3 s4 s5
      have hsz1 : wr.heap.size < (wr.alloc (ZB z)).drew.heap.size := by simp
      have hB1 : Below w.heap.size w (wr.alloc (ZB z)).drew := (hbel.alloc hbel.size _).drew
      have hB2 : Below w.heap.size w ((wr.alloc (ZB z)).alloc Z31).drew := ((hbel.alloc hbel.size _).alloc (by have := hbel.size; simp; omega) _).drew
      have hZ1 : ZAt (wr.alloc (ZB z)).drew wr.heap.size z := zAt_alloc wr z
      have hZ2 : ZAt ((wr.alloc (ZB z)).alloc Z31).drew wr.heap.size z := (zAt_alloc wr z).kept ((Below.refl _ _).alloc (Nat.le_refl _) _).drew (by simp)
      have HC1 := Hid.out (p := Hid _) (clone_z z (sss k) wr.heap.size _ w src hB1 hsz1 hZ1)
      have HC2 := Hid.out (p := Hid _) (clone_z2 z (sss k) wr w src hB2 hZ2)
      clear hB1 hB2 hZ1 hZ2 hsz1
      go_cut [9] (fun s9 wx => ∃ (T2 : Nat) (oa oc : _), s9 = .pointer (some ⟨T2, 0, none⟩) ∧ wx.heap[T2]? = some (.cells #[.string z.node, .int .i64 z.at_, .slice oa z.on oc, .string z.stopped, .int .i64 z.sat, .bool z.sby] 31 (0, 0)) ∧ RecOwn wx { z with oa := oa, oc := oc } ∧ ZAt wx wr.heap.size z ∧ CInv w.heap.size (w.heap.size + 5) w wx zs lead k v)
      case first =>
        go_region_held (fun w' => w'.cell? ⟨wr.heap.size, 0, none⟩ = some (.string z.node) ∧ w'.cell? ⟨wr.heap.size, 1, none⟩ = some (.int .i64 z.at_) ∧ w'.cell? ⟨wr.heap.size, 2, none⟩ = some (.slice z.oa z.on z.oc) ∧ w'.cell? ⟨wr.heap.size, 3, none⟩ = some (.string z.stopped) ∧ w'.cell? ⟨wr.heap.size, 4, none⟩ = some (.int .i64 z.sat) ∧ w'.cell? ⟨wr.heap.size, 5, none⟩ = some (.bool z.sby)) (first | with_reducible exact hz2 | go_keep)
          ((go_at_call 6; (first | (refine Calls.mono HC1.out ?_; rintro e w2 ⟨oa2, oc2, rfl, hro2, hb2, hz2, hlz2⟩) | (refine Calls.mono HC2.out ?_; rintro e w2 ⟨oa2, oc2, rfl, hro2, hb2, hz2, ⟨y0, y1, y2, y3, y4, y5⟩, ⟨f0, f1, f2, f3, f4, f5⟩⟩))))
        all_goals go_wp2_with fail
        all_goals go_meet
        · exact meetA G hro2 hb2 hz2 hlz2
        · exact meetB G hro2 hb2 hz2
      case rest =>
      obtain ⟨T2, oa2, oc2, rfl, hT2, hro2, hz2, G2⟩ := hcut
      clear G hbel HC1 HC2 src
      obtain ⟨z0, z1, z2, z3, z4, z5⟩ := hz2
      have HT2 := Hid.out (p := Hid _) hT2
      clear hT2
      -- if len(z.Others) > 0 { want++ }
      go_upto_if 38 with fail
      obtain ⟨wx0, hwx0⟩ : ∃ wx0, wx0 = wc := ⟨_, rfl⟩
      rw [← hwx0] at G2 HT2 hro2 z0 z1 z2 z3 z4 z5 ⊢
      clear hwx0
      go_cut [6] (fun s6 wx => s6 = .int .i64 (m + (if 0 < z.on then 1 else 0) : Nat) ∧ wx = wx0)
      case first =>
        by_cases ho : 0 < z.on
        · go_wp2
          go_meet
          rw [if_pos ho]
          exact ⟨by go_num, rfl⟩
        · go_wp2
          go_meet
          rw [if_neg ho]
          exact ⟨rfl, rfl⟩
      case rest =>
      obtain ⟨rfl, rfl⟩ := hcut
      have hm2 : m + (if 0 < z.on then 1 else 0) ≤ 2 * k + 1 := by split <;> omega
      obtain ⟨m2, hme⟩ : ∃ m2, m2 = m + (if 0 < z.on then 1 else 0) := ⟨_, rfl⟩
      rw [← hme] at hm2 HCN ⊢
      clear hme
      -- the other test
      go_upto_region 11 with fail
      go_cut [57] (fun s57 wx => s57 = .bool (z.late lead) ∧ wx = wc)
      case first =>
        go_wp2
        all_goals go_meet
        · exact ⟨by rw [late_a ‹_›], rfl⟩
        · exact ⟨by rw [late_b ‹z.sby = true›], rfl⟩
        · exact ⟨by rw [late_c ‹¬ z.sby = true›], rfl⟩
      case rest =>
      obtain ⟨rfl, hwc2⟩ := hcut
      subst hwc2
      clear z0 z1 z2 z3 z4 z5
      go_upto_if 57 with fail
      obtain ⟨lt, hlte⟩ : ∃ lt, lt = z.late lead := ⟨_, rfl⟩
      have HLT := Hid.out (p := Hid _) hlte
      rw [← hlte] at HCN ⊢
      clear hlte
      go_cut [6] (fun s6 wx => s6 = .int .i64 (cnt zs lead (k + 1) : Nat) ∧ wx = wc)
      case first =>
        cases lt
        · go_wp2
          go_meet
          exact ⟨by rw [HCN.out]; rfl, rfl⟩
        · go_wp2
          go_meet
          exact ⟨by rw [HCN.out]; simp, rfl⟩
      case rest =>
      obtain ⟨rfl, hwc2⟩ := hcut
      subst hwc2
      -- s.starts = append(s.starts, st)
      obtain ⟨rs, hown, hrs⟩ := G2.1
      obtain ⟨m0, m1, m2', m3, m4, hS⟩ := G2.2.1
      have hBS := G2.2.2.1.size
      have c5 : wc.cell? ⟨w.heap.size + 5, 5, none⟩ = some v := by simp [World.cell?, hS]
      have t0 := cell_T HT2.out 0
      have t1 := cell_T HT2.out 1
      have t2 := cell_T HT2.out 2
      have t3 := cell_T HT2.out 3
      have t4 := cell_T HT2.out 4
      have t5 := cell_T HT2.out 5
      simp at t0 t1 t2 t3 t4 t5
      have hTl := lt_of_block HT2.out
      have hSl := lt_of_block hS
      have HNA := Hid.out (p := Hid _) (news_at wc z oa2 oc2)
      have HNO := Hid.out (p := Hid _) (news_one { z with oa := oa2, oc := oc2 })
      have HOW : Hid ((wc.alloc (NB z oa2 oc2)).drew.ownsRow w.heap.size 31 6 v k (flat rs k)) := (hown.alloc _).drew
      have hb1 : w.heap.size ≤ (wc.alloc (NB z oa2 oc2)).drew.heap.size := by simp; omega
      have HB1 := Hid.out (p := Hid _) hb1
      clear hS hb1
      go_upto_region 13 with fail
      go_region_law ((refine step_append_own rfl (.tmp 64) (.tmp 66) 32 rfl w.heap.size 31 i0 _ 6 80 Ybaf.underlying32 hi hz0 hz1 hz2 rfl (by decide) v k (flat rs k) (by simp [Act.eval]) HOW.out ⟨wc.heap.size, 0, none⟩ 1 1 (SRec.cells { z with oa := oa2, oc := oc2 }) (by simp [Act.eval]) rfl HNA.out HNO.out (by unfold maxLen; omega) (by omega) HB1.out ?_; intro v' w4 hown4 hgrow4; obtain ⟨c5', f5'⟩ := s_after G2 hown hgrow4; obtain ⟨g', cp', hv'⟩ := own_shape hown4; subst hv'))
      all_goals go_wp2
      all_goals go_roundg (gk - 1)
      all_goals first | (case measure => omega) | skip
      all_goals exact ⟨k + 1, _, by omega, by go_num, rfl, push_c G2 hown hrs HZ.out num hro2 hown4 hgrow4⟩
    · obtain rfl : k = n := by omega
      have HCK := Hid.out (p := Hid _) (check_c G hl1 hl2 hn)
      have hcl := cnt_le zs lead k
      obtain ⟨m, hm⟩ : ∃ m, m = cnt zs lead k := ⟨_, rfl⟩
      rw [← hm] at HCK hcl ⊢
      clear hm HS G
      go_wp2_with fail
      refine Calls.mono HCK.out ?_
      rintro e w2 ⟨hb2, ⟨h0, rfl⟩ | ⟨h0, J, a, c, rfl, hJ⟩⟩
      · go_wp2
        go_ret
        exact ⟨rfl, hb2⟩
      · go_wp2_with fail
        refine Calls.mono (count_any J m c a w2 hJ) ?_
        rintro e w3 ⟨rfl, rfl⟩
        go_wp2
        go_ret
        exact ⟨by simp, hb2⟩
end Go.Proofs.YbulkasgcFmt
