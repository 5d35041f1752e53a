/-
  NewSketch, the checks ahead of it, and the law's own walk.
-/
import Derived.Test.YbulkbthwFmtB
namespace Go.Proofs.YbulkbthwFmt
open Go.RowKit
set_option maxHeartbeats 400000 in
set_option maxRecDepth 100000 in
theorem checkBits_any (w : World) : Calls Ybaf.prog 11 #[.int .i64 64] w fun e w' => e = .returned .nilIface ∧ w = w' := by
  go_enter Ybaf.func11, Ybaf.ntmps11
  go_wp2
  go_ret
  exact ⟨rfl, rfl⟩
set_option maxHeartbeats 400000 in
set_option maxRecDepth 100000 in
theorem checkShape_any (n hsh : Nat) (w : World) (hn0 : 8 ≤ n) (hn : n ≤ 207) (hh3 : 3 ≤ hsh) (hh : hsh ≤ 8) : Calls Ybaf.prog 7 #[.int .i64 (n : Int), .int .i64 (hsh : Int), .int .i64 64] w fun e w' => e = .returned .nilIface ∧ w = w' := by
  go_enter Ybaf.func7, Ybaf.ntmps7
  go_wp2_with fail
  refine (checkBits_any _).mono ?_
  rintro e w' ⟨rfl, rfl⟩
  have t1 : decide ((hsh : Int) < 3) = false := decide_eq_false (by omega)
  have t2 : decide (8 < (hsh : Int)) = false := decide_eq_false (by omega)
  have t3 : decide ((n : Int) < (hsh : Int)) = false := decide_eq_false (by omega)
  have t4 : decide (4294967295 < (n : Int)) = false := decide_eq_false (by omega)
  go_wp2
  go_ret
  exact ⟨rfl, rfl⟩
set_option maxHeartbeats 400000 in
set_option maxRecDepth 100000 in
theorem checkTable_any (n : Nat) (w : World) (hn0 : 8 ≤ n) (hn : n ≤ 207) : Calls Ybaf.prog 8 #[.int .i64 (n : Int)] w fun e w' => e = .returned .nilIface ∧ w = w' := by
  go_enter Ybaf.func8, Ybaf.ntmps8
  go_wp2
  go_ret
  exact ⟨rfl, rfl⟩
theorem made44 (n : Nat) (hn : n ≤ 100000) (w : World) : (Instr.makeSlice 39 (.int .i64 (n : Int)) (.int .i64 (n : Int))).run Ybaf.prog w = .ok (.slice (some ⟨w.heap.size, 0, none⟩) n n) (w.alloc (.cells (madeCells (Value.agg #[.int .u64 0, .int .u32 0, .int .i32 0]).cells (n * 3)) 44)) := by
  obtain ⟨i, hi, hz, hs, hby⟩ : ∃ i, Ybaf.prog.info? 44 = some i ∧ i.zero = some (.agg #[.int .u64 0, .int .u32 0, .int .i32 0]) ∧ i.size = 3 ∧ i.bytes = 16 := by
    have h : (Ybaf.prog.info? 44).map (fun i => (i.zero, i.size, i.bytes)) = some (some (.agg #[.int .u64 0, .int .u32 0, .int .i32 0]), 3, 16) := by kernel_rfl
    cases hx : Ybaf.prog.info? 44 with
    | none => rw [hx] at h; cases h
    | some i =>
      rw [hx] at h
      simp only [Option.map_some, Option.some.injEq, Prod.mk.injEq] at h
      exact ⟨i, rfl, h.1, h.2.1, h.2.2⟩
  have hr := run_make (P := Ybaf.prog) w 39 44 i _ Ybaf.underlying39 hi hz .i64 .i64 (n : Int) (n : Int) (by omega) (Int.le_refl _) (by rw [hby]; omega) (by omega)
  simp only [Int.toNat_natCast, hs] at hr
  exact hr
theorem madeCells_get (m i : Nat) (h : i < m) : (madeCells (Value.agg #[.int .u64 0, .int .u32 0, .int .i32 0]).cells m)[i]?.getD undef = (#[Value.int .u64 0, .int .u32 0, .int .i32 0] : Array Value)[i % 3]! := by
  simp [madeCells, h, Value.cells]
set_option maxHeartbeats 400000 in
set_option maxRecDepth 100000 in
theorem new_any (n hsh : Nat) (w : World) (hn0 : 8 ≤ n) (hn : n ≤ 207) (hh3 : 3 ≤ hsh) (hh : hsh ≤ 8) : Calls Ybaf.prog 4 #[.int .i64 (n : Int), .int .i64 (hsh : Int), .int .i64 64] w fun e w' => 
    e = .returned (.tuple #[.pointer (some ⟨w.heap.size + 1, 0, none⟩), .nilIface]) ∧ Below w.heap.size w w' ∧ w'.heap.size = w.heap.size + 2 ∧ w'.cell? ⟨w.heap.size + 1, 1, none⟩ = some (.int .i64 (hsh : Int)) ∧ w'.cell? ⟨w.heap.size + 1, 2, none⟩ = some (.slice (some ⟨w.heap.size, 0, none⟩) n n) ∧ Tab w' w.heap.size n (fun _ => 0) 0 := by
  have hmk := made44 n (by omega) w
  have hrow := RowIs.made w (madeCells (Value.agg #[.int .u64 0, .int .u32 0, .int .i32 0]).cells (n * 3)) 44
  have hbw := (Below.refl w.heap.size w).alloc (Nat.le_refl _) (.cells (madeCells (Value.agg #[.int .u64 0, .int .u32 0, .int .i32 0]).cells (n * 3)) 44)
  have hsz : (w.alloc (.cells (madeCells (Value.agg #[.int .u64 0, .int .u32 0, .int .i32 0]).cells (n * 3)) 44)).heap.size = w.heap.size + 1 := by simp
  have ht : Tab (w.alloc (.cells (madeCells (Value.agg #[.int .u64 0, .int .u32 0, .int .i32 0]).cells (n * 3)) 44)) w.heap.size n (fun _ => 0) 0 := by
    rw [size_madeCells] at hrow
    refine ⟨⟨_, hrow, fun j hj => ⟨0, 0, ?_, ?_, ?_⟩⟩, fun j hj => ⟨Int.le_refl _, Int.le_refl _⟩⟩
    · show (madeCells _ _)[_]?.getD undef = _
      rw [madeCells_get _ _ (by omega), show j * 3 % 3 = 0 by omega]; rfl
    · show (madeCells _ _)[_]?.getD undef = _
      rw [madeCells_get _ _ (by omega), show (j * 3 + 1) % 3 = 1 by omega]; rfl
    · show (madeCells _ _)[_]?.getD undef = _
      rw [madeCells_get _ _ (by omega), show (j * 3 + 2) % 3 = 2 by omega]; rfl
  generalize (w.alloc (.cells (madeCells (Value.agg #[.int .u64 0, .int .u32 0, .int .i32 0]).cells (n * 3)) 44)) = w1 at *
  have HR : Hid (Tab w1 w.heap.size n (fun _ => 0) 0) := ht
  clear ht hrow
  go_enter Ybaf.func4, Ybaf.ntmps4
  go_wp2_with fail
  refine (checkShape_any n hsh _ hn0 hn hh3 hh).mono ?_
  rintro e w' ⟨rfl, rfl⟩
  go_wp2_with fail
  refine (checkTable_any n _ hn0 hn).mono ?_
  rintro e w' ⟨rfl, rfl⟩
  go_wp2
  go_ret2
  refine ⟨rfl, hbw.alloc (by omega) _, by simp [hsz], by rw [← hsz]; simp [go_sem], by rw [← hsz]; simp [go_sem], HR.out.later ((Below.refl _ _).alloc (Nat.le_refl _) _)⟩

def KeyAt (w : World) (a : Option Addr) (len : Nat) (x : Nat → Int) : Prop :=
  ∀ k, k < len → ∃ b off, a = some ⟨b, off, none⟩ ∧ w.cell? ⟨b, off + k, none⟩ = some (.int .u64 (x k)) ∧ 0 ≤ x k ∧ x k < 18446744073709551616
def SignAt (w : World) (a : Option Addr) (len : Nat) (x : Nat → Bool) : Prop :=
  ∀ k, k < len → ∃ b off, a = some ⟨b, off, none⟩ ∧ w.cell? ⟨b, off + k, none⟩ = some (.bool (x k))
theorem idx22 {a : Option Addr} {b off len cap k : Nat} (ha : a = some ⟨b, off, none⟩) (hk : k < len) (w : World) :
    (Instr.indexAt 22 (.slice a len cap) (.int .i64 (k : Int))).run Ybaf.prog w = .ok (.pointer (some ⟨b, off + k, none⟩)) w := by
  subst ha
  have hs : (sizeOf 34).run Ybaf.prog w = .ok 1 w := by kernel_rfl
  rw [run_indexAt_slice _ _ _ _ _ _ _ Ybaf.underlying22]
  rw [if_pos (by omega)]
  show ((sizeOf 34).run Ybaf.prog w).andThen _ = _
  rw [hs]
  simp [Result.andThen, Addr.add]
theorem idx23 {a : Option Addr} {b off len cap k : Nat} (ha : a = some ⟨b, off, none⟩) (hk : k < len) (w : World) :
    (Instr.indexAt 23 (.slice a len cap) (.int .i64 (k : Int))).run Ybaf.prog w = .ok (.pointer (some ⟨b, off + k, none⟩)) w := by
  subst ha
  have hs : (sizeOf 4).run Ybaf.prog w = .ok 1 w := by kernel_rfl
  rw [run_indexAt_slice _ _ _ _ _ _ _ Ybaf.underlying23]
  rw [if_pos (by omega)]
  show ((sizeOf 4).run Ybaf.prog w).andThen _ = _
  rw [hs]
  simp [Result.andThen, Addr.add]
/-- the sketch stands -/
def Sk (w : World) (sb B n hsh : Nat) (cnt : Nat → Int) (M : Nat) : Prop :=
  w.cell? ⟨sb, 1, none⟩ = some (.int .i64 (hsh : Int)) ∧ w.cell? ⟨sb, 2, none⟩ = some (.slice (some ⟨B, 0, none⟩) n n) ∧ Tab w B n cnt M
theorem Sk.later {w w' : World} {sb B n hsh M : Nat} {cnt : Nat → Int} (h : Sk w sb B n hsh cnt M) (hb : Below w.heap.size w w') : Sk w' sb B n hsh cnt M :=
  ⟨cell_later hb h.1, cell_later hb h.2.1, h.2.2.later hb⟩

set_option maxHeartbeats 1000000 in
set_option maxRecDepth 100000 in
theorem law_any (a0 : Option Addr) (l0 c0 : Nat) (x0 : Nat → Int) (a1 : Option Addr) (l1 c1 : Nat) (x1 : Nat → Bool) (cc hc : Nat) (w : World) (h0 : KeyAt w a0 l0 x0) (h1 : SignAt w a1 l1 x1) (hl0 : l0 ≤ 1024) (_hl1 : l1 ≤ 9223372036854775807) (hcc : cc ≤ 65535) (hhc : hc ≤ 255) :
    Calls Ybaf.prog 3 #[.slice a0 l0 c0, .slice a1 l1 c1, .int .u16 (cc : Int), .int .u8 (hc : Int)] w fun e w' => e = .returned (.bool true) ∧ Below w.heap.size w w' := by
  obtain ⟨n, hn, hn8, hn207⟩ : ∃ n : Nat, n = 8 + cc % 200 ∧ 8 ≤ n ∧ n ≤ 207 := ⟨_, rfl, by omega, by omega⟩
  obtain ⟨hsh, hh, hh3, hh8⟩ : ∃ n : Nat, n = 3 + hc % 6 ∧ 3 ≤ n ∧ n ≤ 8 := ⟨_, rfl, by omega, by omega⟩
  have en : (8 : Int) + (cc : Int) % 200 = (n : Int) := by omega
  have eh : (3 : Int) + (hc : Int) % 6 = (hsh : Int) := by omega
  have EN : Hid ((8 : Int) + (cc : Int) % 200 = (n : Int)) := en
  have EH : Hid ((3 : Int) + (hc : Int) % 6 = (hsh : Int)) := eh
  clear en eh hn hh
  go_enter Ybaf.func3, Ybaf.ntmps3
  go_wp2_with fail
  rw [EN.out, EH.out]
  refine (new_any n hsh _ hn8 hn207 hh3 hh8).mono ?_
  rintro e w1 ⟨rfl, hb1, hs1, hk1, hk2, ht⟩
  generalize hB : w.heap.size = B at *
  have hsk : Sk w1 (B + 1) B n hsh (fun _ => 0) 0 := ⟨hk1, hk2, ht⟩
  clear hk1 hk2 ht
  go_wp2_with fail
  have hz : sumZ (fun _ => 0) n = 0 := by
    have := sumZ_bound (fun _ => 0) 0 n (fun j hj => ⟨Int.le_refl _, Int.le_refl _⟩)
    simp at this
    omega
  refine (counted_any (B + 1) B n n 0 (fun _ => 0) _ hn207 (by decide) hsk.2.1 hsk.2.2).mono ?_
  rintro e w2 ⟨rfl, hb2⟩
  have hsk2 := hsk.later hb2
  rw [hz]
  have hb12 := hb1.trans (hb2.mono (by omega))
  have hs2 : B + 2 ≤ w2.heap.size := by have := hb2.size; omega
  clear hsk hb2 hb1 hs1
  go_wp2
  go_loopw [13, 14] (fun s i wr => ∃ (k : Nat) (cnt : Nat → Int), k ≤ l0 ∧ i = .int .i64 k ∧ s = .int .i64 (sumZ cnt n) ∧ Below B w wr ∧ B + 2 ≤ wr.heap.size ∧ Sk wr (B + 1) B n hsh cnt (8 * k)) (fun _ i _ => l0 - (intOf i).toNat)
  case atStart => exact ⟨0, _, Nat.zero_le _, rfl, by rw [hz], hb12, hs2, hsk2⟩
  case round =>
    obtain ⟨k, cnt, hk, rfl, rfl, hbel, hsz, hsk⟩ := hrel
    clear hb12 hs2 hsk2 hz
    by_cases hlt : k < l0
    · obtain ⟨b0, o0, ha0, hc0, hx1, hx2⟩ := h0 k hlt
      obtain ⟨X, hX⟩ : ∃ X : Nat, x0 k = (X : Int) := ⟨(x0 k).toNat, by omega⟩
      rw [hX] at hc0 hx1 hx2
      have hi0 := fun wz => idx22 (cap := c0) ha0 hlt wz
      have HC : Hid (w.cell? ⟨b0, o0 + k, none⟩ = some (.int .u64 (X : Int))) := hc0
      have H1 : Hid (SignAt w a1 l1 x1) := h1
      clear h0 h1 hc0 ha0 hX
      go_upto_region 15 with fail
      go_cut [59] (fun s59 wx => (∃ q : Bool, s59 = .bool q) ∧ wr = wx)
      case first =>
        by_cases hl : k < l1
        · obtain ⟨b1, o1, ha1, hc1⟩ := H1.out k hl
          have hc1' : wr.cell? ⟨b1, o1 + k, none⟩ = some (.bool (x1 k)) := cell_later (by rw [hB]; exact hbel) hc1
          have hi1 := fun wz => idx23 (cap := c1) ha1 hl wz
          have t1 : decide ((k : Int) < (l1 : Int)) = true := decide_eq_true (by omega)
          clear ha1 hc1
          go_wp2_with fail
          go_meet
          exact ⟨⟨_, rfl⟩, rfl⟩
        · have t1 : decide ((k : Int) < (l1 : Int)) = false := decide_eq_false (by omega)
          go_wp2_with fail
          go_meet
          exact ⟨⟨_, rfl⟩, rfl⟩
      case rest =>
      obtain ⟨⟨q, rfl⟩, rfl⟩ := hcut
      go_upto_if 59 with fail
      go_cut [15] (fun s15 wx => ∃ d : Int, -1 ≤ d ∧ d ≤ 1 ∧ s15 = .int .i32 d ∧ wr = wx)
      case first =>
        cases q
        · go_wp2_with fail
          go_meet
          exact ⟨1, by omega, by omega, rfl, rfl⟩
        · go_wp2_with fail
          go_meet
          exact ⟨-1, by omega, by omega, rfl, rfl⟩
      case rest =>
      obtain ⟨d, hd1, hd2, rfl, rfl⟩ := hcut
      have hcx : ∀ o, (wr.alloc o).cell? ⟨b0, o0 + k, none⟩ = some (.int .u64 (X : Int)) := fun o => cell_later (by rw [hB]; exact hbel.alloc (by omega) o) HC.out
      have hcw : wr.cell? ⟨b0, o0 + k, none⟩ = some (.int .u64 (X : Int)) := cell_later (by rw [hB]; exact hbel) HC.out
      go_wp2_with fail
      have hskA := hsk.later ((Below.refl wr.heap.size wr).alloc (Nat.le_refl _) (.cells #[.int .i64 0, .int .i64 0, .int .i64 0, .int .i64 0, .int .i64 0, .int .i64 0, .int .i64 0, .int .i64 0] 31))
      have hrA := RowIs.made wr #[.int .i64 0, .int .i64 0, .int .i64 0, .int .i64 0, .int .i64 0, .int .i64 0, .int .i64 0, .int .i64 0] 31
      have hbA := hbel.alloc (by omega) (.cells #[.int .i64 0, .int .i64 0, .int .i64 0, .int .i64 0, .int .i64 0, .int .i64 0, .int .i64 0, .int .i64 0] 31)
      refine (update_any (B + 1) wr.heap.size n hsh B (8 * k) X d cnt _ _ (by omega) hn8 hn207 hh3 hh8 (by omega) ⟨hd1, hd2⟩ hskA.1 hskA.2.1 hrA (by omega) (by omega) (by omega) hskA.2.2).mono ?_
      rintro e w3 ⟨rfl, wm, hg1, hg2, cnt', ht', hsum⟩
      have hsk3 : Sk w3 (B + 1) B n hsh cnt' (8 * k + hsh) := ⟨cell_kept hg2 (by omega) (cell_kept hg1 (by omega) hskA.1), cell_kept hg2 (by omega) (cell_kept hg1 (by omega) hskA.2.1), ht'⟩
      have hb3 : Below B w w3 := (hbA.grown hg1 (by simp; omega) (fun k hk => by cases hk; omega)).grown hg2 (by have := hg1.size; simp at this; omega) (fun k hk => by cases hk; omega)
      have hs3 : B + 2 ≤ w3.heap.size := by have := hg1.size; have := hg2.size; simp at *; omega
      have hb1 := sumZ_small (k := n) (by omega) hn207 (Nat.le_refl _) hsk.2.2.2
      have hb2 := sumZ_small (k := n) (by omega) hn207 (Nat.le_refl _) ht'.2
      have hdm : -8 ≤ d * (hsh : Int) ∧ d * (hsh : Int) ≤ 8 := by
        have : d = -1 ∨ d = 0 ∨ d = 1 := by omega
        rcases this with rfl | rfl | rfl <;> omega
      clear hcx hcw hg1 hg2 hskA hrA hbA ht'
      have HSK : Hid (Sk w3 (B + 1) B n hsh cnt' (8 * k + hsh)) := hsk3
      have HSUM : Hid (sumZ cnt' n = sumZ cnt n + d * (hsh : Int)) := hsum
      clear hsum hsk3
      go_wp2_with fail
      refine (counted_any (B + 1) B n n _ cnt' _ hn207 (by omega) HSK.out.2.1 HSK.out.2.2).mono ?_
      rintro e w4 ⟨rfl, hb4⟩
      rw [← HSUM.out]
      go_wp2
      go_roundw
      case rel => exact ⟨k + 1, cnt', by omega, by go_num, rfl, hb3.trans (hb4.mono (by omega)), by have := hb4.size; omega, (HSK.out.later hb4).1, (HSK.out.later hb4).2.1, (HSK.out.later hb4).2.2.mono (by omega)⟩
      case measure => simp [intOf]; omega
    · have hk : k = l0 := by omega
      subst hk
      go_wp2_with fail
      refine (counted_any (B + 1) B n n _ cnt _ hn207 (by omega) hsk.2.1 hsk.2.2).mono ?_
      rintro e w3 ⟨rfl, hb3⟩
      go_wp2
      go_ret
      exact ⟨by simp, by rw [hB]; exact hbel.trans (hb3.mono (by omega))⟩
end Go.Proofs.YbulkbthwFmt
