/-
  'LawS2186BCounts': the walk. Our own work over the given program.
-/
import Derived.Test.YbulkasgcBState
namespace Go.Proofs.Ybulkasgc
open Go.RowKit Go.WideMaps Go.Maps

set_option maxRecDepth 100000 in
set_option maxHeartbeats 1000000 in
theorem walkB (a0 a1 a2 : ByteArray) (a3 a4 a5 a6 : Int) (a7 : Bool) (a8 : ByteArray) (a9 a10 : Int) (w0 : a0.size ≤ maxLen) (w1 : a1.size ≤ maxLen) (w2 : a2.size ≤ maxLen) (b3 : 0 ≤ a3 ∧ a3 ≤ 255) (w8 : a8.size ≤ maxLen) (w : World) :
    Calls Yba.prog 5 #[.string a0, .string a1, .string a2, .int .u8 a3, .int .u64 a4, .int .u64 a5, .int .u64 a6, .bool a7, .string a8, .int .i64 a9, .int .i64 a10] w fun e w' => e = .returned (.bool true) ∧ Below w.heap.size w w' := by
  have hmm := @run_makeMap Yba.prog
  have hbu := build66B
  go_enter Yba.func5, Yba.ntmps5
  go_upto_region 2 with (go_at_call 9; refine (pick_any a0 a1 a2 a3 b3.1 b3.2 w0 w1 w2 _).mono ?_; rintro e w' ⟨⟨node, hnode, rfl⟩, rfl⟩)
  go_cut [24] (fun s24 wx => s24 = .pointer (some ⟨w'.heap.size + 2, 0, none⟩) ∧ GSt w'.heap.size w' wx a0 a1 0 0 0 0 0 0 (.map []) (.map []))
  case first =>
    go_wp2_with (refine wpList_build_run _ rfl 66 _ rfl _ rfl _ (build66B a0 a1 w'.heap.size (w'.heap.size + 1) _) ?_)
    go_meet
    exact ⟨rfl, gst_start _ _ _⟩
  case rest =>
  obtain ⟨rfl, G⟩ := hcut
  clear hmm hbu
  -- g.states[principal] = ..
  go_upto_region 3 with fail
  have c21 := G.c21
  go_cut [] (fun wx => GSt w'.heap.size w' wx a0 a1 0 0 0 0 1 0 ((DataW.map []).put (kl a0) (.lit (.int .u64 a4))) (.map []))
  case first =>
    go_wp2_with (at_mapUpdate; refine wpList_mapUpdate_own _ rfl _ _ _ 34 rfl 9 69 law9 Yba.underlying34 _ w'.heap.size 0 _ rfl G.os (by decide) _ _ _ rfl rfl (key9 w0) _ [] (nsElem_mk _) ?_; intro w1 hown1 hgrow1)
    go_meet
    exact G.put_states hown1 hgrow1
  case rest =>
  clear c21 G
  rename GSt _ _ _ _ _ _ _ _ _ _ _ _ _ => G
  -- g.states[mirror] = ..
  go_upto_region 4 with fail
  have c21 := G.c21
  go_cut [] (fun wx => GSt w'.heap.size w' wx a0 a1 0 0 0 0 2 0 (stateD a0 a1 a4 a5) (.map []))
  case first =>
    go_wp2_with (at_mapUpdate; refine wpList_mapUpdate_own _ rfl _ _ _ 34 rfl 9 69 law9 Yba.underlying34 _ w'.heap.size 1 _ rfl G.os (by decide) _ _ _ rfl rfl (key9 w1) _ [] (nsElem_mk _) ?_; intro w1 hown1 hgrow1)
    go_meet
    exact G.put_states hown1 hgrow1
  case rest =>
  clear c21 G
  rename GSt _ _ _ _ _ _ _ _ _ _ _ _ _ => G
  -- if inMissed { g.missed[node] = 7 }
  go_upto_if 63 with fail
  have c45 := G.c45
  go_cut [] (fun wx => GSt w'.heap.size w' wx a0 a1 0 0 0 0 2 1 (stateD a0 a1 a4 a5) (missD a7 false node a8))
  case first =>
    cases a7
    · go_wp2
      go_meet
      exact G.mono (by omega)
    · go_wp2_with (at_mapUpdate; refine wpList_mapUpdate_own _ rfl _ _ _ 35 rfl 9 25 law9 Yba.underlying35 _ (w'.heap.size + 1) 0 _ rfl G.om (by decide) _ _ _ rfl rfl (key9 hnode) _ [] (plainElem_int Yba.underlying25 (by decide)) ?_; intro w1 hown1 hgrow1)
      go_meet
      exact G.put_missed hown1 hgrow1
  case rest =>
  clear c45 G
  rename GSt _ _ _ _ _ _ _ _ _ _ _ _ _ => G
  -- otherIn := other != node
  obtain ⟨ob, hob⟩ : ∃ ob : Bool, ob = !decide (a8 = node) := ⟨_, rfl⟩
  have HO : Hid (ob = !decide (a8 = node)) := hob
  clear hob
  go_upto_region 7 with fail
  go_cut [25] (fun s25 wx => s25 = .bool ob ∧ GSt w'.heap.size w' wx a0 a1 0 0 0 0 2 1 (stateD a0 a1 a4 a5) (missD a7 false node a8))
  case first =>
    go_wp2
    go_meet
    exact ⟨by rw [HO.out, neq_bool], G⟩
  case rest =>
  obtain ⟨rfl, G'⟩ := hcut
  clear G
  -- if otherIn { g.missed[other] = 9 }
  go_upto_if 72 with fail
  have c45 := G'.c45
  go_cut [] (fun wx => GSt w'.heap.size w' wx a0 a1 0 0 0 0 2 2 (stateD a0 a1 a4 a5) (missD a7 ob node a8))
  case first =>
    cases ob
    · go_wp2
      go_meet
      exact G'.mono (by omega)
    · go_wp2_with (at_mapUpdate; refine wpList_mapUpdate_own _ rfl _ _ _ 35 rfl 9 25 law9 Yba.underlying35 _ (w'.heap.size + 1) 1 _ rfl G'.om (by decide) _ _ _ rfl rfl (key9 w8) _ [] (plainElem_int Yba.underlying25 (by decide)) ?_; intro w1 hown1 hgrow1)
      go_meet
      exact G'.put_missed hown1 hgrow1
  case rest =>
  clear c45 G'
  rename GSt _ _ _ _ _ _ _ _ _ _ _ _ _ => G
  -- g.hazards = Hazards{..}
  go_upto_region 10 with fail
  have m41 := G.marks 41
  have m42 := G.marks 42
  have m43 := G.marks 43
  have m44 := G.marks 44
  have c41 := G.c41
  have c42 := G.c42
  have c43 := G.c43
  have c44 := G.c44
  go_cut [] (fun wx => GSt w'.heap.size w' wx a0 a1 a9 a10 0 3 2 2 (stateD a0 a1 a4 a5) (missD a7 ob node a8))
  case first =>
    go_wp2
    go_meet
    exact G.set4 _ _ _ _
  case rest =>
  clear m41 m42 m43 m44 c41 c42 c43 c44 G
  rename GSt _ _ _ _ _ _ _ _ _ _ _ _ _ => G
  -- g.tookOver(node, seq)
  obtain ⟨p, hp⟩ : ∃ p, p = if node = a0 then a1 else a0 := ⟨_, rfl⟩
  have hpl : p.size ≤ maxLen := by rw [hp]; split <;> assumption
  obtain ⟨ps, hps⟩ : ∃ ps : Int, ps = if p = a1 then a5 else a4 := ⟨_, rfl⟩
  have hat := state_at a0 a1 node p a4 a5 hp
  rw [← hps] at hat
  have hno : ob = true → a8 ≠ node := by intro h; rw [HO.out] at h; simpa using h
  have HP : Hid (p = if node = a0 then a1 else a0) := hp
  have HS : Hid (ps = if p = a1 then a5 else a4) := hps
  obtain ⟨le, hle⟩ : ∃ le : Bool, le = decide (ps ≤ a6) := ⟨_, rfl⟩
  obtain ⟨F, hF⟩ : ∃ F : Int, F = if le then wrap64 (a9 + 1) else a9 := ⟨_, rfl⟩
  obtain ⟨S, hS⟩ : ∃ S : Int, S = if le then (if a7 then wrap64 (a10 + 1) else a10) else a10 := ⟨_, rfl⟩
  have HL : Hid (le = decide (ps ≤ a6)) := hle
  have HF : Hid (F = if le then wrap64 (a9 + 1) else a9) := hF
  have HSS : Hid (S = if le then (if a7 then wrap64 (a10 + 1) else a10) else a10) := hS
  have HT0 := took_any w'.heap.size (w'.heap.size + 2) w'.heap.size (w'.heap.size + 1) 2 2 a0 a1 node p a6 ps a9 a10 _ _ _ G.c10 G.c11 G.c21 G.c41 G.c42 G.c45 (G.marks _) (G.marks _) G.os G.om hp hpl hnode hat (by omega) (by omega) (by omega) le hle
  rw [miss_has a7 ob node a8 hno, ← hF, ← hS] at HT0
  have HT := Hid.out (p := Hid _) HT0
  clear hp hps hat hle hF hS HT0
  go_upto_region 11 with fail
  go_cut [] (fun wx => GFin w'.heap.size w' wx F S 0 3 2 (leftD le a7 ob node a8))
  case first =>
    go_wp2_with fail
    refine Calls.mono HT.out ?_
    rintro e w2 ⟨rfl, ht⟩
    go_wp2_with fail
    go_meet
    exact G.took ht
  case rest =>
  clear HT G
  rename GFin _ _ _ _ _ _ _ _ _ => G
  -- partner
  go_upto_if 91 with fail
  go_cut [26] (fun s26 wx => s26 = .string p ∧ GFin w'.heap.size w' wx F S 0 3 2 (leftD le a7 ob node a8))
  case first =>
    go_wp2
    all_goals go_meet
    · exact ⟨by rw [HP.out, if_pos (eq_of_toList ‹_›)], G⟩
    · exact ⟨by rw [HP.out, if_neg (ne_of_toList ‹_›)], G⟩
  case rest =>
  obtain ⟨rfl, G'⟩ := hcut
  clear G
  -- ps
  go_upto_if 95 with fail
  go_cut [27] (fun s27 wx => s27 = .int .u64 ps ∧ GFin w'.heap.size w' wx F S 0 3 2 (leftD le a7 ob node a8))
  case first =>
    go_wp2
    all_goals go_meet
    · exact ⟨by rw [HS.out, if_pos (eq_of_toList ‹_›)], G'⟩
    · exact ⟨by rw [HS.out, if_neg (ne_of_toList ‹_›)], G'⟩
  case rest =>
  obtain ⟨rfl, G⟩ := hcut
  clear G'
  -- wantF, wantS, nodeKept
  obtain ⟨K, hK⟩ : ∃ K : Bool, K = (!le && a7) := ⟨_, rfl⟩
  have HK : Hid (K = (!le && a7)) := hK
  clear hK
  go_upto_if 103 with fail
  go_cut [28, 29, 30] (fun s28 s29 s30 wx => s28 = .int .i64 F ∧ s29 = .int .i64 S ∧ s30 = .bool K ∧ GFin w'.heap.size w' wx F S 0 3 2 (leftD le a7 ob node a8))
  case first =>
    by_cases h : ps ≤ a6
    · cases a7
      all_goals
        go_wp2
        go_meet
        exact ⟨by rw [HF.out, HL.out]; simp [h], by rw [HSS.out, HL.out]; simp [h], by rw [HK.out, HL.out]; simp [h], G⟩
    · go_wp2
      go_meet
      have hn : ¬ ps ≤ a6 := by omega
      exact ⟨by rw [HF.out, HL.out]; simp [hn], by rw [HSS.out, HL.out]; simp [hn], by rw [HK.out, HL.out]; simp [hn], G⟩
  case rest =>
  obtain ⟨rfl, rfl, rfl, G'⟩ := hcut
  clear G
  have hhas := left_has le a7 ob node a8 hno
  rw [← HK.out] at hhas
  have hsz := left_size le a7 ob node a8 hno
  rw [← HK.out] at hsz
  have hoth : ob = true → has (leftD le a7 ob node a8) (kl a8) = true ∧ (leftD le a7 ob node a8).atKey (kl a8) (.lit (.int .i64 0)) = .lit (.int .i64 9) := by
    intro h; subst h; exact left_other le a7 node a8 (hno rfl)
  obtain ⟨D, hD⟩ : ∃ D, D = leftD le a7 ob node a8 := ⟨_, rfl⟩
  rw [← hD] at G' hhas hsz hoth
  clear hD HK HSS HF HL HS HP hno HO
  have c41 := G'.c41
  have c42 := G'.c42
  have c43 := G'.c43
  have c44 := G'.c44
  have c45 := G'.c45
  have sz := G'.size
  have lit_inj : ∀ c : Int, (DataW.lit (Lit.int IntKind.i64 9) : DataW Unit) = .lit (.int .i64 c) → c = 9 := by
    intro c h
    injection h with h1
    injection h1 with _ h2
    exact h2.symm
  have LI := Hid.out (p := Hid _) lit_inj
  clear lit_inj
  go_upto_region 29 with fail
  cases K <;> cases ob
  · clear hoth
    go_wp2_with (first
      | (at_lookup; refine wpList_lookup_own_ok_int _ rfl (.tmp 137) (.tmp 138) 35 rfl 9 25 .i64 law9 Yba.underlying35 Yba.underlying25 (zero25 _) (w'.heap.size + 1) 2 D rfl (G'.om.alloc _) _ _ rfl (key9 hnode) ?_; intro c hat hwc)
      | (at_len; refine wpList_len_own _ rfl (.tmp 169) 35 rfl 9 25 Yba.underlying35 _ (w'.heap.size + 1) 2 D rfl (G'.om.alloc _) ?_))
    go_ret
    refine ⟨?_, G'.below.alloc (by omega) _⟩
    first | rfl | (rw [hsz]; rfl) | simp [hsz]
  · obtain ⟨ho1, ho2⟩ := hoth rfl
    have HO2 := Hid.out (p := Hid _) ho2
    clear hoth ho2
    go_wp2_with (first
      | (at_lookup; refine wpList_lookup_own_ok_int _ rfl (.tmp 137) (.tmp 138) 35 rfl 9 25 .i64 law9 Yba.underlying35 Yba.underlying25 (zero25 _) (w'.heap.size + 1) 2 D rfl (G'.om.alloc _) _ _ rfl (key9 hnode) ?_; intro c hat hwc)
      | (at_lookup; refine wpList_lookup_own_ok_int _ rfl (.tmp 153) (.tmp 154) 35 rfl 9 25 .i64 law9 Yba.underlying35 Yba.underlying25 (zero25 _) (w'.heap.size + 1) 2 D rfl (G'.om.alloc _) _ _ rfl (key9 w8) ?_; intro c hat hwc; have hc9 := LI.out c (HO2.out.symm.trans hat))
      | (at_len; refine wpList_len_own _ rfl (.tmp 169) 35 rfl 9 25 Yba.underlying35 _ (w'.heap.size + 1) 2 D rfl (G'.om.alloc _) ?_))
    go_ret
    refine ⟨?_, G'.below.alloc (by omega) _⟩
    first | rfl | (rw [hsz]; rfl) | simp [hsz]
  · clear hoth
    go_wp2_with (first
      | (at_lookup; refine wpList_lookup_own_ok_int _ rfl (.tmp 137) (.tmp 138) 35 rfl 9 25 .i64 law9 Yba.underlying35 Yba.underlying25 (zero25 _) (w'.heap.size + 1) 2 D rfl (G'.om.alloc _) _ _ rfl (key9 hnode) ?_; intro c hat hwc)
      | (at_len; refine wpList_len_own _ rfl (.tmp 169) 35 rfl 9 25 Yba.underlying35 _ (w'.heap.size + 1) 2 D rfl (G'.om.alloc _) ?_))
    go_ret
    refine ⟨?_, G'.below.alloc (by omega) _⟩
    first | rfl | (rw [hsz]; rfl) | simp [hsz]
  · obtain ⟨ho1, ho2⟩ := hoth rfl
    have HO2 := Hid.out (p := Hid _) ho2
    clear hoth ho2
    go_wp2_with (first
      | (at_lookup; refine wpList_lookup_own_ok_int _ rfl (.tmp 137) (.tmp 138) 35 rfl 9 25 .i64 law9 Yba.underlying35 Yba.underlying25 (zero25 _) (w'.heap.size + 1) 2 D rfl (G'.om.alloc _) _ _ rfl (key9 hnode) ?_; intro c hat hwc)
      | (at_lookup; refine wpList_lookup_own_ok_int _ rfl (.tmp 153) (.tmp 154) 35 rfl 9 25 .i64 law9 Yba.underlying35 Yba.underlying25 (zero25 _) (w'.heap.size + 1) 2 D rfl (G'.om.alloc _) _ _ rfl (key9 w8) ?_; intro c hat hwc; have hc9 := LI.out c (HO2.out.symm.trans hat))
      | (at_len; refine wpList_len_own _ rfl (.tmp 169) 35 rfl 9 25 Yba.underlying35 _ (w'.heap.size + 1) 2 D rfl (G'.om.alloc _) ?_))
    go_ret
    refine ⟨?_, G'.below.alloc (by omega) _⟩
    first | rfl | (rw [hsz]; rfl) | simp [hsz]

end Go.Proofs.Ybulkasgc
