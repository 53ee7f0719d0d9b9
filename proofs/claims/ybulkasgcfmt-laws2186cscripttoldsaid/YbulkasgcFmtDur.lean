/-
  '(time.Duration).String': a contract that says as much as our laws want: it returns some string; nothing that was there has turned. Our own work over the given program.
-/
import Derived.Test.YbulkasgcFmtRows
import Derived.WalkKit
import Derived.WalkSpells
import Derived.WalkLawsBesides
import Derived.Deep.OwnRows
import Derived.Lib.LazyBuf
import Derived.Laws.BytesArg
import Derived.Deep.DeepCutAuto
namespace Go.Proofs.YbulkasgcFmt
open Go.RowKit

/-- Block b is the array of 32 bytes into which a duration is written. -/
def Buf (w : World) (b : Nat) : Prop := ∃ f : Nat → Int, w.rowIs b 71 32 (fun i => .int .u8 (f i))

/-- w' is w but for the content of block b. -/
def Only (b : Nat) (w w' : World) : Prop := w.grownBy w' (some b) ∧ w'.heap.size = w.heap.size

theorem Only.refl (b : Nat) (w : World) : Only b w w := ⟨World.grownBy.refl w _, rfl⟩
theorem Only.trans {b : Nat} {w w1 w2 : World} (h : Only b w w1) (k : Only b w1 w2) : Only b w w2 :=
  ⟨⟨k.1.os.trans h.1.os, k.1.tape.trans h.1.tape, k.1.output.trans h.1.output, by rw [k.2, h.2]; exact Nat.le_refl _, fun i hi hne => (k.1.block i (by rw [h.2]; exact hi) hne).trans (h.1.block i hi hne)⟩, k.2.trans h.2⟩
theorem Only.setCell {b : Nat} {w w1 : World} (h : Only b w w1) (i : Nat) (v : Value) : Only b w (w1.setCell ⟨b, i, none⟩ v) :=
  h.trans ⟨⟨rfl, rfl, rfl, by simp [World.setCell], fun k _ hne => Below.heap_setCell _ _ _ _ (fun e => hne (by rw [e]))⟩, by simp [World.setCell]⟩

theorem Buf.setCell {w : World} {b : Nat} (h : Buf w b) (i : Nat) (c : Int) : Buf (w.setCell ⟨b, i, none⟩ (.int .u8 c)) b := by
  obtain ⟨f, hf⟩ := h
  refine ⟨fun j => if j = i then c else f j, (hf.set i _).congr fun j _ => ?_⟩
  by_cases h : j = i <;> simp [h]

theorem Buf.cell {w : World} {b : Nat} (h : Buf w b) {i : Nat} (hi : i < 32) : ∃ c, w.cell? ⟨b, i, none⟩ = some (.int .u8 c) := by
  obtain ⟨f, hf⟩ := h
  exact ⟨_, hf.cell hi⟩

theorem Buf.frozen {w : World} {b : Nat} (h : Buf w b) (i : Nat) : w.frozen? ⟨b, i, none⟩ = false := by
  obtain ⟨f, hf⟩ := h
  exact hf.frozen i

theorem pow_step {x : Int} {d : Nat} (h0 : 0 < x) (h : x < 10 ^ d) : ∃ k, d = k + 1 ∧ x / 10 < 10 ^ k := by
  cases d with
  | zero => simp at h; omega
  | succ k =>
    refine ⟨k, rfl, ?_⟩
    rw [Int.pow_succ] at h
    omega

set_option maxRecDepth 100000 in
set_option maxHeartbeats 400000 in
theorem fmtInt_any (b L cap d : Nat) (v : Int) (w : World) (hb : Buf w b) (hL : L ≤ 32) (hv0 : 0 ≤ v) (hv1 : v < 18446744073709551616) (hv : v < 10 ^ d) (hd1 : 1 ≤ d) (hd : d ≤ L) :
    Calls Ybaf.prog 32 #[.slice (some ⟨b, 0, none⟩) L cap, .int .u64 v] w fun e w' => ∃ m : Nat, e = .returned (.int .i64 m) ∧ m ≤ L ∧ L ≤ m + d ∧ Buf w' b ∧ Only b w w' := by
  have HV : Hid (v < 10 ^ d) := hv
  clear hv
  by_cases hz : v = 0
  · subst hz
    obtain ⟨c, hc⟩ := hb.cell (i := L - 1) (by omega)
    have hf := hb.frozen (L - 1)
    go_enter Ybaf.func32, Ybaf.ntmps32
    go_wp2
    go_ret
    have e1 : ((L - 1 : Nat) : Int) = (L : Int) - 1 := by omega
    exact ⟨L - 1, by rw [e1]; rfl, by omega, by omega, hb.setCell _ _, (Only.refl _ _).setCell _ _⟩
  · have hq : (v == 0) = false := by simpa using hz
    clear hz
    go_enter Ybaf.func32, Ybaf.ntmps32
    go_wp2
    go_loopw [1, 5] (fun s1 s5 wr => ∃ (x : Int) (m k : Nat), s1 = .int .u64 x ∧ s5 = .int .i64 m ∧ 0 ≤ x ∧ x ≤ v ∧ Hid (x < 10 ^ k) ∧ m ≤ L ∧ k ≤ m ∧ L ≤ m + d - k ∧ k ≤ d ∧ Buf wr b ∧ Only b w wr) (fun s1 _ _ => (intOf s1).toNat)
    case atStart => exact ⟨v, L, d, rfl, rfl, hv0, Int.le_refl _, HV, Nat.le_refl _, hd, by omega, Nat.le_refl _, hb, Only.refl _ _⟩
    case round =>
      obtain ⟨x, m, k, rfl, rfl, hx0, hxv, HX, hm, hkm, hLm, hkd, hB, hO⟩ := hrel
      by_cases hlt : 0 < x
      · obtain ⟨k', rfl, hx'⟩ := pow_step hlt HX.out
        have HX' : Hid (x / 10 < 10 ^ k') := hx'
        obtain ⟨c, hc⟩ := hB.cell (i := m - 1) (by omega)
        have hf := hB.frozen (m - 1)
        clear hx' HX
        go_wp2
        go_roundw
        case rel => exact ⟨x / 10, m - 1, k', rfl, by go_num, by omega, by omega, HX', by omega, by omega, by omega, by omega, hB.setCell _ _, hO.setCell _ _⟩
        case measure => simp [intOf]; omega
      · go_wp2
        go_ret
        exact ⟨m, rfl, hm, by omega, hB, hO⟩

theorem div_step (v : Int) (i : Nat) : v / 10 ^ i / 10 = v / 10 ^ (i + 1) := by
  rw [Int.pow_succ, Int.ediv_ediv_of_nonneg (Int.pow_nonneg (by decide))]

set_option maxRecDepth 100000 in
set_option maxHeartbeats 400000 in
theorem fmtFrac_any (b L cap p : Nat) (v : Int) (w : World) (hb : Buf w b) (hL : L ≤ 32) (hv0 : 0 ≤ v) (hv1 : v < 18446744073709551616) (hp : p ≤ 9) (hd : p + 1 ≤ L) :
    Calls Ybaf.prog 31 #[.slice (some ⟨b, 0, none⟩) L cap, .int .u64 v, .int .i64 p] w fun e w' => ∃ m : Nat, e = .returned (.tuple #[.int .i64 m, .int .u64 (v / 10 ^ p)]) ∧ m ≤ L ∧ L ≤ m + p + 1 ∧ Buf w' b ∧ Only b w w' := by
  go_enter Ybaf.func31, Ybaf.ntmps31
  go_wp2
  go_loopw [1, 8, 9, 10] (fun s1 s8 s9 s10 wr => ∃ (x : Int) (m i : Nat) (pr : Bool), s1 = .int .u64 x ∧ s8 = .int .i64 m ∧ s9 = .bool pr ∧ s10 = .int .i64 i ∧ Hid (x = v / 10 ^ i) ∧ 0 ≤ x ∧ x ≤ v ∧ i ≤ p ∧ m ≤ L ∧ L ≤ m + i ∧ Buf wr b ∧ Only b w wr) (fun _ _ _ s10 _ => p - (intOf s10).toNat)
  case atStart => exact ⟨v, L, 0, false, rfl, rfl, rfl, rfl, by simp [Hid], hv0, Int.le_refl _, Nat.zero_le _, Nat.le_refl _, Nat.le_refl _, hb, Only.refl _ _⟩
  case round =>
    obtain ⟨x, m, i, pr, rfl, rfl, rfl, rfl, HX, hx0, hxv, hi, hm, hLm, hB, hO⟩ := hrel
    by_cases hlt : i < p
    · have HX' : Hid (x / 10 = v / 10 ^ (i + 1)) := by have := HX.out; rw [this]; exact div_step v i
      clear HX
      obtain ⟨c, hc⟩ := hB.cell (i := m - 1) (by omega)
      have hf := hB.frozen (m - 1)
      cases pr
      all_goals
        go_wp2
        all_goals
          go_roundw
          case rel => first | exact ⟨x / 10, m - 1, i + 1, _, rfl, by go_num, rfl, by go_num, HX', by omega, by omega, by omega, by omega, by omega, hB.setCell _ _, hO.setCell _ _⟩ | exact ⟨x / 10, m, i + 1, _, rfl, rfl, rfl, by go_num, HX', by omega, by omega, by omega, by omega, by omega, hB, hO⟩
          case measure => simp [intOf]; omega
    · obtain rfl : i = p := by omega
      cases pr
      · go_wp2
        go_ret2
        exact ⟨m, by have := HX.out; rw [← this]; rfl, hm, by omega, hB, hO⟩
      · obtain ⟨c, hc⟩ := hB.cell (i := m - 1) (by omega)
        have hf := hB.frozen (m - 1)
        go_wp2
        go_ret2
        have e1 : ((m - 1 : Nat) : Int) = (m : Int) - 1 := by omega
        exact ⟨m - 1, by have := HX.out; rw [← this, e1]; rfl, by omega, by omega, hB.setCell _ _, hO.setCell _ _⟩

/-- 'fmtFrac', the precision as a number of its own, the quotient under a name. -/
theorem fmtFrac_at (b L cap p : Nat) (P v : Int) (w : World) (hP : P = (p : Int)) (hb : Buf w b) (hL : L ≤ 32) (hv0 : 0 ≤ v) (hv1 : v < 18446744073709551616) (hp : p ≤ 9) (hd : p + 1 ≤ L) :
    Calls Ybaf.prog 31 #[.slice (some ⟨b, 0, none⟩) L cap, .int .u64 v, .int .i64 P] w fun e w' => ∃ (m : Nat) (q : Int), e = .returned (.tuple #[.int .i64 m, .int .u64 q]) ∧ Hid (q = v / 10 ^ p) ∧ m ≤ L ∧ L ≤ m + p + 1 ∧ Buf w' b ∧ Only b w w' := by
  subst hP
  refine (fmtFrac_any b L cap p v w hb hL hv0 hv1 hp hd).mono ?_
  rintro e w' ⟨m, rfl, h1, h2, h3, h4⟩
  exact ⟨m, _, rfl, rfl, h1, h2, h3, h4⟩

theorem len71 : Ybaf.prog.arrayLen 71 = 32 := by kernel_rfl
theorem und71 : Ybaf.prog.underlying 71 = some (TypeDesc.array (Ybaf.prog.arrayLen 71) (Ybaf.prog.elem 71)) := by kernel_rfl
theorem size71 (w : World) : (sizeOf (Ybaf.prog.elem 71)).run Ybaf.prog w = .ok 1 w := by kernel_rfl

theorem slice_hi (b n : Nat) (x : Int) (w : World) (hx : x = (n : Int)) (hn : n ≤ 32) : (Instr.sliceAt 71 (.pointer (some ⟨b, 0, none⟩)) none (some (.int .i64 x)) none).run Ybaf.prog w = .ok (.slice (some ⟨b, 0, none⟩) n 32) w := by
  subst hx
  rw [run_sliceAt_array_h (t := 71) (ht := und71) (h0 := by omega) (h2 := by rw [len71]; omega), size71, len71]
  simp [Result.andThen, slicedAt, Addr.add]

theorem slice_lo (b n : Nat) (w : World) (hn : n ≤ 32) : (Instr.sliceAt 71 (.pointer (some ⟨b, 0, none⟩)) (some (.int .i64 (n : Int))) none none).run Ybaf.prog w = .ok (.slice (some ⟨b, if n = 32 then 0 else n, none⟩) (32 - n) (32 - n)) w := by
  rw [run_sliceAt_array_l (t := 71) (ht := und71) (h0 := by omega) (h1 := by rw [len71]; omega), size71, len71]
  simp only [Result.andThen, slicedAt, Int.toNat_natCast, Nat.mul_one]
  by_cases h : n = 32
  · subst h; rfl
  · rw [if_neg (fun e => h e.symm), if_neg h]
    by_cases h0 : n = 0
    · subst h0; rfl
    · simp [Addr.add, h0]

theorem size5 (w : World) : (sizeOf 5).run Ybaf.prog w = .ok 1 w := by kernel_rfl

/-- 'copy(buf[w:], "..")', the micro sign's two bytes. -/
theorem wpList_copy_mu (w : World) {ops : Array Oper} {rest : List Oper} {o : Oper} {a : Act} {Q : Exit → Act → World → Prop} (hg : o.guard = none) (d : Operand)
    (hop : o.op = Op.call { callee := Callee.builtin Builtin.copy, args := #[d, .const (.string ⟨#[194, 181]⟩)], argTypes := #[74, 9] }) (b : Nat) (hd : a.eval d = .slice (some ⟨b, 29, none⟩) 3 3) (hb : Buf w b)
    (hK : wpList Ybaf.prog ops Q rest (a.put o.dst (.int .i64 2)) ((w.setCell ⟨b, 29, none⟩ (.int .u8 194)).setCell ⟨b, 30, none⟩ (.int .u8 181))) : wpList Ybaf.prog ops Q (o :: rest) a w := by
  refine wpList_plain hg fun K' hK' => ?_
  have hrun := run_copy_string (P := Ybaf.prog) w 74 9 o.type 5 b 29 3 3 ⟨#[194, 181]⟩ Ybaf.underlying74 size5 (by decide)
    (fun j hj => by obtain ⟨c, hc⟩ := hb.cell (i := 29 + j) (by have : j < 2 := hj; omega); rw [hc]; rfl) (fun j _ => hb.frozen _)
  have e : w.setCells b 29 ((⟨#[194, 181]⟩ : ByteArray).data.toList.map fun x => Value.int .u8 (x.toNat : Int)) = (w.setCell ⟨b, 29, none⟩ (.int .u8 194)).setCell ⟨b, 30, none⟩ (.int .u8 181) := rfl
  rw [e] at hrun
  have e2 : a.eval (.const (.string ⟨#[194, 181]⟩)) = .string ⟨#[194, 181]⟩ := rfl
  unfold Oper.wp
  simp [execOp, hop, resolve, invoke, builtin, hd, e2, hrun, Result.andThen]
  exact hK' _ _ hK

theorem abs_neg (d : Int) (h0 : -9223372036854775808 ≤ d) (h : d < 0) : 0 ≤ IntKind.u64.wrap (-IntKind.u64.wrap d) ∧ IntKind.u64.wrap (-IntKind.u64.wrap d) ≤ 9223372036854775808 := by
  rw [IntKind.wrap_u64, IntKind.wrap_u64]
  omega

theorem abs_pos (d : Int) (h1 : d ≤ 9223372036854775807) (h : 0 ≤ d) : 0 ≤ IntKind.u64.wrap d ∧ IntKind.u64.wrap d ≤ 9223372036854775808 := by
  rw [IntKind.wrap_u64]
  omega

set_option maxRecDepth 100000 in
set_option maxHeartbeats 400000 in
theorem format_any (b : Nat) (d : Int) (w : World) (hb : Buf w b) (h0 : -9223372036854775808 ≤ d) (h1 : d ≤ 9223372036854775807) :
    Calls Ybaf.prog 26 #[.int .i64 d, .pointer (some ⟨b, 0, none⟩)] w fun e w' => ∃ m : Nat, e = .returned (.int .i64 m) ∧ m ≤ 32 ∧ Buf w' b ∧ Only b w w' := by
  go_enter Ybaf.func26, Ybaf.ntmps26
  go_upto_if 13 with fail
  go_cut [6, 7] (fun s6 s7 wx => ∃ (u : Int) (ng : Bool), s6 = .int .u64 u ∧ s7 = .bool ng ∧ 0 ≤ u ∧ u ≤ 9223372036854775808 ∧ wx = w)
  case first =>
    go_wp2
    all_goals go_meet
    · exact ⟨_, _, rfl, rfl, (abs_neg d h0 (by assumption)).1, (abs_neg d h0 (by assumption)).2, rfl⟩
    · exact ⟨_, _, rfl, rfl, (abs_pos d h1 (by assumption)).1, (abs_pos d h1 (by assumption)).2, rfl⟩
  case rest =>
  obtain ⟨u, ng, rfl, rfl, hu0, hu1, rfl⟩ := hcut
  go_upto_if 17 with fail
  go_cut [5] (fun s5 wx => ∃ m : Nat, s5 = .int .i64 m ∧ 1 ≤ m ∧ m ≤ 32 ∧ Buf wx b ∧ Only b wc wx)
  case first =>
    by_cases hs : u < 1000000000
    · obtain ⟨c31, hc31⟩ := hb.cell (i := 31) (by omega)
      have hf31 := hb.frozen 31
      obtain ⟨c30, hc30⟩ := hb.cell (i := 30) (by omega)
      have hf30 := hb.frozen 30
      obtain ⟨c29, hc29⟩ := hb.cell (i := 29) (by omega)
      have hf29 := hb.frozen 29
      by_cases hz : u = 0
      · subst hz
        go_wp2_with fail
        go_ret
        exact ⟨30, rfl, by omega, (hb.setCell _ _).setCell _ _, ((Only.refl _ _).setCell _ _).setCell _ _⟩
      · have hq0 : (u == 0) = false := by simpa using hz
        clear hz
        by_cases h3 : u < 1000
        · go_wp2_with fail
          refine Calls.mono (fmtFrac_at b 30 32 0 0 u _ rfl ((hb.setCell 31 115).setCell 30 110) (by omega) hu0 (by omega) (by omega) (by omega)) ?_
          rintro e w1 ⟨m1, q, rfl, HQ, hm1, hm2, hB1, hO1⟩
          have hq : 0 ≤ q ∧ q < 1000 := by
            have h := HQ.out
            have e9 : (10 : Int) ^ 0 = 1 := rfl
            rw [e9] at h
            omega
          obtain ⟨hq0', hq1⟩ := hq
          clear hc31 hf31 hc30 hf30 hc29 hf29
          have hO1' := (((Only.refl b wc).setCell 31 (.int .u8 115)).setCell 30 (.int .u8 110)).trans hO1
          clear HQ hO1
          have i1 : (m1 : Int) ≤ 32 := by omega
          go_wp2_with fail
          refine Calls.mono (fmtInt_any b m1 32 3 q _ hB1 (by omega) hq0' (by omega) (by show q < 1000; omega) (by omega) (by omega)) ?_
          rintro e w2 ⟨m2, rfl, hm3, hm4, hB2, hO2⟩
          go_wp2_with fail
          go_meet
          exact ⟨m2, rfl, by omega, by omega, hB2, hO1'.trans hO2⟩
        · by_cases h6 : u < 1000000
          · go_wp2_with (refine wpList_copy_mu _ rfl (.tmp 53) rfl b rfl (hb.setCell 31 115) ?_)
            refine Calls.mono (fmtFrac_at b 29 32 3 3 u _ rfl (((hb.setCell 31 115).setCell 29 194).setCell 30 181) (by omega) hu0 (by omega) (by omega) (by omega)) ?_
            rintro e w1 ⟨m1, q, rfl, HQ, hm1, hm2, hB1, hO1⟩
            have hq : 0 ≤ q ∧ q < 1000 := by
              have h := HQ.out
              have e9 : (10 : Int) ^ 3 = 1000 := rfl
              rw [e9] at h
              omega
            obtain ⟨hq0', hq1⟩ := hq
            clear hc31 hf31 hc30 hf30 hc29 hf29
            have hO1' := ((((Only.refl b wc).setCell 31 (.int .u8 115)).setCell 29 (.int .u8 194)).setCell 30 (.int .u8 181)).trans hO1
            clear HQ hO1
            have i1 : (m1 : Int) ≤ 32 := by omega
            go_wp2_with fail
            refine Calls.mono (fmtInt_any b m1 32 3 q _ hB1 (by omega) hq0' (by omega) (by show q < 1000; omega) (by omega) (by omega)) ?_
            rintro e w2 ⟨m2, rfl, hm3, hm4, hB2, hO2⟩
            go_wp2_with fail
            go_meet
            exact ⟨m2, rfl, by omega, by omega, hB2, hO1'.trans hO2⟩
          · go_wp2_with fail
            refine Calls.mono (fmtFrac_at b 30 32 6 6 u _ rfl ((hb.setCell 31 115).setCell 30 109) (by omega) hu0 (by omega) (by omega) (by omega)) ?_
            rintro e w1 ⟨m1, q, rfl, HQ, hm1, hm2, hB1, hO1⟩
            have hq : 0 ≤ q ∧ q < 1000 := by
              have h := HQ.out
              have e9 : (10 : Int) ^ 6 = 1000000 := rfl
              rw [e9] at h
              omega
            obtain ⟨hq0', hq1⟩ := hq
            clear hc31 hf31 hc30 hf30 hc29 hf29
            have hO1' := (((Only.refl b wc).setCell 31 (.int .u8 115)).setCell 30 (.int .u8 109)).trans hO1
            clear HQ hO1
            have i1 : (m1 : Int) ≤ 32 := by omega
            go_wp2_with fail
            refine Calls.mono (fmtInt_any b m1 32 3 q _ hB1 (by omega) hq0' (by omega) (by show q < 1000; omega) (by omega) (by omega)) ?_
            rintro e w2 ⟨m2, rfl, hm3, hm4, hB2, hO2⟩
            go_wp2_with fail
            go_meet
            exact ⟨m2, rfl, by omega, by omega, hB2, hO1'.trans hO2⟩
    · obtain ⟨c31, hc31⟩ := hb.cell (i := 31) (by omega)
      have hf31 := hb.frozen 31
      go_wp2_with fail
      refine Calls.mono (fmtFrac_at b 31 32 9 9 u _ rfl (hb.setCell 31 115) (by omega) hu0 (by omega) (by omega) (by omega)) ?_
      rintro e w1 ⟨m1, q, rfl, HQ, hm1, hm2, hB1, hO1⟩
      have hq : 0 ≤ q ∧ q ≤ 9223372036 := by
        have h := HQ.out
        have e9 : (10 : Int) ^ 9 = 1000000000 := rfl
        rw [e9] at h
        omega
      obtain ⟨hq0, hq1⟩ := hq
      clear hc31 hf31
      have hO1' := ((Only.refl b wc).setCell 31 (.int .u8 115)).trans hO1
      clear HQ hO1
      have i1 : (m1 : Int) ≤ 32 := by omega
      go_wp2_with fail
      refine Calls.mono (fmtInt_any b m1 32 2 (q % 60) _ hB1 (by omega) (by omega) (by omega) (by show q % 60 < 100; omega) (by omega) (by omega)) ?_
      rintro e w2 ⟨m2, rfl, hm3, hm4, hB2, hO2⟩
      have hO2' := hO1'.trans hO2
      clear hO1' hO2 hB1
      obtain ⟨c2, hc2⟩ := hB2.cell (i := m2 - 1) (by omega)
      have hf2 := hB2.frozen (m2 - 1)
      by_cases hz : 0 < q / 60
      · have hs2 := fun w => slice_hi b (m2 - 1) ((m2 : Int) - 1) w (by omega) (by omega)
        go_wp2_with fail
        refine Calls.mono (fmtInt_any b (m2 - 1) 32 2 (q / 60 % 60) _ (hB2.setCell _ _) (by omega) (by omega) (by omega) (by show q / 60 % 60 < 100; omega) (by omega) (by omega)) ?_
        rintro e w3 ⟨m3, rfl, hm5, hm6, hB3, hO3⟩
        have hO3' := (hO2'.setCell (m2 - 1) (.int .u8 109)).trans hO3
        clear hO2' hO3 hB2 hc2 hf2 hs2
        obtain ⟨c3, hc3⟩ := hB3.cell (i := m3 - 1) (by omega)
        have hf3 := hB3.frozen (m3 - 1)
        by_cases hz2 : 0 < q / 60 / 60
        · have hs3 := fun w => slice_hi b (m3 - 1) ((m3 : Int) - 1) w (by omega) (by omega)
          go_wp2_with fail
          refine Calls.mono (fmtInt_any b (m3 - 1) 32 7 (q / 60 / 60) _ (hB3.setCell _ _) (by omega) (by omega) (by omega) (by show q / 60 / 60 < 10000000; omega) (by omega) (by omega)) ?_
          rintro e w4 ⟨m4, rfl, hm7, hm8, hB4, hO4⟩
          go_wp2_with fail
          go_meet
          exact ⟨m4, rfl, by omega, by omega, hB4, (hO3'.setCell (m3 - 1) (.int .u8 104)).trans hO4⟩
        · go_wp2_with fail
          go_meet
          exact ⟨m3, rfl, by omega, by omega, hB3, hO3'⟩
      · go_wp2_with fail
        go_meet
        exact ⟨m2, rfl, by omega, by omega, hB2, hO2'⟩
  case rest =>
  obtain ⟨m, rfl, hm1, hm2, hB, hO⟩ := hcut
  obtain ⟨c, hc⟩ := hB.cell (i := m - 1) (by omega)
  have hf := hB.frozen (m - 1)
  cases ng
  · go_wp2
    go_ret
    exact ⟨m, rfl, hm2, hB, hO⟩
  · go_wp2
    go_ret
    have e1 : ((m - 1 : Nat) : Int) = (m : Int) - 1 := by omega
    exact ⟨m - 1, by rw [e1]; rfl, by omega, hB.setCell _ _, hO.setCell _ _⟩

/-- 'string(arr[n:])'. -/
theorem conv_buf (b m : Nat) (w : World) (hb : Buf w b) (hm : m ≤ 32) : ∃ s : ByteArray, (convert 74 9 (.slice (some ⟨b, if m = 32 then 0 else m, none⟩) (32 - m) (32 - m))).run Ybaf.prog w = .ok (.string s) w := by
  obtain ⟨f, hf⟩ := hb
  refine ⟨_, run_convert_bytes_arg w 74 5 Ybaf.underlying74 Ybaf.underlying5 b _ (32 - m) (32 - m) ((List.range (32 - m)).map fun i => f (m + i)) (by simp) (fun i hi => ?_) 9 Ybaf.underlying9⟩
  rw [if_neg (by omega), hf.cell (by omega)]
  simp [List.getD, hi]

theorem buf_new (w : World) : Buf (w.alloc (.cells #[.int .u8 0, .int .u8 0, .int .u8 0, .int .u8 0, .int .u8 0, .int .u8 0, .int .u8 0, .int .u8 0, .int .u8 0, .int .u8 0, .int .u8 0, .int .u8 0, .int .u8 0, .int .u8 0, .int .u8 0, .int .u8 0,
    .int .u8 0, .int .u8 0, .int .u8 0, .int .u8 0, .int .u8 0, .int .u8 0, .int .u8 0, .int .u8 0, .int .u8 0, .int .u8 0, .int .u8 0, .int .u8 0, .int .u8 0, .int .u8 0, .int .u8 0, .int .u8 0] 71)) w.heap.size := by
  refine ⟨fun _ => 0, World.rowIs_alloc w (Array.replicate 32 (Value.int .u8 0)) 71 _ fun i hi => ?_⟩
  rw [Array.size_replicate] at hi
  rw [Array.getElem?_replicate, if_pos hi]

set_option maxRecDepth 100000 in
set_option maxHeartbeats 400000 in
/-- '(time.Duration).String'. -/
theorem string_any (d : Int) (w : World) (h0 : -9223372036854775808 ≤ d) (h1 : d ≤ 9223372036854775807) :
    Calls Ybaf.prog 21 #[.int .i64 d] w fun e w' => ∃ s : ByteArray, e = .returned (.string s) ∧ Below w.heap.size w w' := by
  go_enter Ybaf.func21, Ybaf.ntmps21
  go_wp2_with fail
  refine Calls.mono (format_any w.heap.size d _ (buf_new w) h0 h1) ?_
  rintro e w1 ⟨m, rfl, hm, hB, hO⟩
  have hsl := fun w1 => slice_lo w.heap.size m w1 hm
  obtain ⟨s, hcv⟩ := conv_buf w.heap.size m w1 hB hm
  have hbel : Below w.heap.size w w1 := ((Below.refl _ w).alloc (Nat.le_refl _) _).grown hO.1 (by simp) (fun k hk => by cases hk; exact Nat.le_refl _)
  clear hO hB
  obtain ⟨o, ho⟩ : ∃ o, o = if m = 32 then 0 else m := ⟨_, rfl⟩
  rw [← ho] at hcv
  simp only [← ho] at hsl
  clear ho
  go_wp2
  go_ret
  first | exact ⟨s, rfl, hbel⟩ | exact ⟨⟨s, rfl⟩, hbel⟩

end Go.Proofs.YbulkasgcFmt
