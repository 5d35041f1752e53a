/-
  'workload.readQueue' ON THE ROADS THAT BRING NO ERROR.
-/
import Derived.Test.YbulkbtdoFmtCalls
import Derived.Deep.QuietTactic
import Derived.BigQuiet
import Derived.RegionTactic
import Derived.BigRegion
namespace Go.Proofs.YbulkbtdoFmt
open Go.RowKit Go.Maps Go.WideMaps

/-- what policyNames holds -/
def pnames : List ByteArray := [⟨#[102, 105, 102, 111]⟩, ⟨#[115, 116, 97, 116, 101, 45, 97, 119, 97, 114, 101]⟩, ⟨#[112, 114, 105, 111, 114, 105, 116, 121]⟩, ⟨#[102, 97, 105, 114, 115, 104, 97, 114, 101]⟩]
def LaidNames (w : World) : Prop := ∃ b off c, w.cell? ⟨0, 0, none⟩ = some (.slice (some ⟨b, off, none⟩) 4 c) ∧ ∀ j, j < pnames.length → w.cell? ⟨b, off + j, none⟩ = some (.string (pnames.getD j ByteArray.empty))

theorem bcell {W w1 : World} (hb : Below W.heap.size W w1) : (∀ b o, b < W.heap.size → w1.cell? ⟨b, o, none⟩ = W.cell? ⟨b, o, none⟩) ∧ (∀ b o, b < W.heap.size → w1.frozen? ⟨b, o, none⟩ = W.frozen? ⟨b, o, none⟩) :=
  ⟨fun b o h => hb.cell (p := ⟨b, o, none⟩) h, fun b o h => hb.frozen (p := ⟨b, o, none⟩) h⟩
theorem cell_block {w : World} {b o : Nat} {v : Value} (h : w.cell? ⟨b, o, none⟩ = some v) : b < w.heap.size := by
  by_cases hb : b < w.heap.size
  · exact hb
  · exfalso
    simp [World.cell?, Array.getElem?_eq_none (show w.heap.size ≤ b by omega)] at h
/-- the box of the argument, and the result's own cells, behind a call that has only made memory -/
theorem read_facts {w w1 : World} {v0 v1 v2 v3 v4 : Value} (hb : Below ((w.alloc (.cells #[v0, v1, v2, v3, v4] 40)).alloc (.cells #[.string ⟨#[]⟩, .string ⟨#[]⟩, .string ⟨#[]⟩, .bool false, .int .i64 0, .map none] 30)).heap.size
      ((w.alloc (.cells #[v0, v1, v2, v3, v4] 40)).alloc (.cells #[.string ⟨#[]⟩, .string ⟨#[]⟩, .string ⟨#[]⟩, .bool false, .int .i64 0, .map none] 30)) w1) :
    w1.cell? ⟨w.heap.size, 0, none⟩ = some v0 ∧ w1.cell? ⟨w.heap.size, 1, none⟩ = some v1 ∧ w1.cell? ⟨w.heap.size, 2, none⟩ = some v2 ∧ w1.cell? ⟨w.heap.size, 3, none⟩ = some v3 ∧ w1.cell? ⟨w.heap.size, 4, none⟩ = some v4 ∧
    w1.frozen? ⟨w.heap.size + 1, 0, none⟩ = false ∧ w1.frozen? ⟨w.heap.size + 1, 1, none⟩ = false ∧ w1.frozen? ⟨w.heap.size + 1, 2, none⟩ = false ∧ w1.frozen? ⟨w.heap.size + 1, 3, none⟩ = false ∧ w1.frozen? ⟨w.heap.size + 1, 4, none⟩ = false ∧ w1.frozen? ⟨w.heap.size + 1, 5, none⟩ = false ∧
    w1.cell? ⟨w.heap.size + 1, 0, none⟩ = some (.string ⟨#[]⟩) ∧ w1.cell? ⟨w.heap.size + 1, 1, none⟩ = some (.string ⟨#[]⟩) ∧ w1.cell? ⟨w.heap.size + 1, 2, none⟩ = some (.string ⟨#[]⟩) ∧ w1.cell? ⟨w.heap.size + 1, 3, none⟩ = some (.bool false) ∧ w1.cell? ⟨w.heap.size + 1, 4, none⟩ = some (.int .i64 0) ∧ w1.cell? ⟨w.heap.size + 1, 5, none⟩ = some (.map none) ∧
    w.heap.size + 1 < w1.heap.size := by
  obtain ⟨hc, hf⟩ := bcell hb
  have hs := hb.size
  simp at hs
  refine ⟨?_, ?_, ?_, ?_, ?_, ?_, ?_, ?_, ?_, ?_, ?_, ?_, ?_, ?_, ?_, ?_, ?_, by omega⟩
  all_goals first | (rw [hc _ _ (by simp; omega)]; simp [go_sem]; done) | (rw [hf _ _ (by simp)]; simp [go_sem]; done) | (rw [hc _ _ (by simp)]; simp [go_sem]; done)
theorem Owns.alloc {w : World} {B n : Nat} {D : DataW Unit} (h : Owns w B n D) (o : Obj) : Owns (w.alloc o) B n D := World.ownsMap.alloc h o
theorem Owns.below {w w' : World} {M n : Nat} {D : DataW Unit} (h : Owns w M n D) (hb : Below w.heap.size w w') : Owns w' M n D := by
  have hlt := World.ownsMap.lt h
  obtain ⟨es, clock, hblk, F, hs, hD⟩ := h
  exact ⟨es, clock, (hb.block M hlt).trans hblk, F, hs, hD⟩
/-- the same, and the cells of the queue that is being made, behind a second such call -/
theorem read_facts2 {w w2 w3 : World} {v0 v1 v2 v3 v4 v5 n4 : Value} {B : Nat} {M : Option Nat} (hb : Below (w2.alloc (.cells #[v0, v1, v2, v3, v4, v5] 30)).drew.heap.size (w2.alloc (.cells #[v0, v1, v2, v3, v4, v5] 30)).drew w3)
    (hB : B < w2.heap.size) (hmc : w2.cell? ⟨B, 5, none⟩ = some (.map M)) (h4 : w2.cell? ⟨w.heap.size, 4, none⟩ = some n4) (hz : w.heap.size + 1 < w2.heap.size)
    (f : ∀ j, j < 6 → w2.frozen? ⟨w.heap.size + 1, j, none⟩ = false) (r : ∀ j, j < 6 → ∃ v, w2.cell? ⟨w.heap.size + 1, j, none⟩ = some v) :
    w3.cell? ⟨B, 5, none⟩ = some (.map M) ∧ w3.cell? ⟨w.heap.size, 4, none⟩ = some n4 ∧
    w3.cell? ⟨w2.heap.size, 0, none⟩ = some v0 ∧ w3.cell? ⟨w2.heap.size, 1, none⟩ = some v1 ∧ w3.cell? ⟨w2.heap.size, 2, none⟩ = some v2 ∧ w3.cell? ⟨w2.heap.size, 3, none⟩ = some v3 ∧ w3.cell? ⟨w2.heap.size, 4, none⟩ = some v4 ∧ w3.cell? ⟨w2.heap.size, 5, none⟩ = some v5 ∧
    w3.frozen? ⟨w2.heap.size, 5, none⟩ = false ∧ (∀ j, j < 6 → w3.frozen? ⟨w.heap.size + 1, j, none⟩ = false) ∧ (∀ j, j < 6 → ∃ v, w3.cell? ⟨w.heap.size + 1, j, none⟩ = some v) ∧ w2.heap.size < w3.heap.size := by
  have hs := hb.size
  simp at hs
  have hz0 : w.heap.size < w2.heap.size := by omega
  have old : ∀ b j v, b < w2.heap.size → w2.cell? ⟨b, j, none⟩ = some v → w3.cell? ⟨b, j, none⟩ = some v := fun b j v h1 h2 => cell_later hb (cell_later (((Below.refl _ w2).alloc (Nat.le_refl _) _).drew) h2)
  have new : ∀ j v, (w2.alloc (.cells #[v0, v1, v2, v3, v4, v5] 30)).cell? ⟨w2.heap.size, j, none⟩ = some v → w3.cell? ⟨w2.heap.size, j, none⟩ = some v := fun j v h => cell_later hb h
  refine ⟨old _ _ _ hB hmc, old _ _ _ hz0 h4, new _ _ (by simp [go_sem]), new _ _ (by simp [go_sem]), new _ _ (by simp [go_sem]), new _ _ (by simp [go_sem]), new _ _ (by simp [go_sem]), new _ _ (by simp [go_sem]), ?_, ?_, ?_, by omega⟩
  · rw [hb.frozen (by simp)]; simp [go_sem]
  · intro j hj
    rw [hb.frozen (by simp; omega)]
    have h1 := (((Below.refl w2.heap.size w2).alloc (Nat.le_refl _) (.cells #[v0, v1, v2, v3, v4, v5] 30)).drew).frozen (p := ⟨w.heap.size + 1, j, none⟩) hz
    rw [h1]; exact f j hj
  · intro j hj
    obtain ⟨v, hv⟩ := r j hj
    exact ⟨v, old _ _ _ hz hv⟩
theorem six {P : Nat → Prop} (h : ∀ j, j < 6 → P j) : P 0 ∧ P 1 ∧ P 2 ∧ P 3 ∧ P 4 ∧ P 5 := ⟨h 0 (by omega), h 1 (by omega), h 2 (by omega), h 3 (by omega), h 4 (by omega), h 5 (by omega)⟩
theorem to_six {P : Nat → Prop} (h0 : P 0) (h1 : P 1) (h2 : P 2) (h3 : P 3) (h4 : P 4) (h5 : P 5) : ∀ j, j < 6 → P j := by
  intro j hj
  match j, hj with
  | 0, _ => exact h0
  | 1, _ => exact h1
  | 2, _ => exact h2
  | 3, _ => exact h3
  | 4, _ => exact h4
  | 5, _ => exact h5
  | n + 6, h => omega

set_option maxHeartbeats 1000000 in
set_option maxRecDepth 100000 in
theorem read1 (name pol : ByteArray) (B : Nat) (w : World) (h0 : name.toList.isEmpty = false) (hp : 0 < name.size) (h1 : name.size ≤ 317) (hl : Letters name) (hN : LaidNames w)
    (hpc : w.cell? ⟨B, 1, none⟩ = some (.string pol)) (hmem : Lib.containsS (pnames.take 4) pol = true) (hne : (pol.toList == [102, 97, 105, 114, 115, 104, 97, 114, 101]) = false) :
    Calls Ybaf.prog 5 #[.agg #[.string name, .pointer (some ⟨B, 1, none⟩), .pointer none, .pointer none, .pointer none]] w fun e w' =>
      e = .returned (.tuple #[.agg #[.string name, .string pol, .string ⟨#[]⟩, .bool false, .int .i64 0, .map none], .nilIface]) ∧ Below w.heap.size w w' := by
  obtain ⟨b, off, c, hg, hcs⟩ := hN
  go_enter Ybaf.func5, Ybaf.ntmps5
  go_wp2_with fail
  refine (check_any _ _ _ h0 hp h1 hl).mono ?_
  rintro e w1 ⟨rfl, hb⟩
  have hb2 : Below w.heap.size w w1 := (((Below.refl _ _).alloc (Nat.le_refl _) _).alloc (by simp) _).trans (hb.mono (by simp; omega))
  have hcs1 : ∀ j, j < pnames.length → w1.cell? ⟨b, off + j, none⟩ = some (.string (pnames.getD j ByteArray.empty)) := fun j hj => cell_later hb2 (hcs j hj)
  have F := read_facts hb
  have hpc1 := cell_later hb2 hpc
  have hg1 := cell_later hb2 hg
  obtain ⟨n0, n1, n2, n3, n4, f0, f1, f2, f3, f4, f5, r0, r1, r2, r3, r4, r5, hz⟩ := F
  go_wp2_with fail
  go_quiet ((go_at_call 8; exact Calls.quiet_of_same (Ybaf.slices_Contains_string b off 4 c pnames pol _ (by decide) (by decide) hcs1)))
  have hb3 : Below w.heap.size w (w1.drewN nq) := below_drewN hb2 nq
  have F := read_facts (below_drewN hb nq)
  have hpc2 := cell_later hb3 hpc
  clear hcs1 hpc1 hg1 n0 n1 n2 n3 n4 f0 f1 f2 f3 f4 f5 r0 r1 r2 r3 r4 r5 hz hb hb2
  generalize w1.drewN nq = w2 at hb3 F hpc2 ⊢
  have hB : B < w2.heap.size := Nat.lt_of_lt_of_le (cell_block hpc) hb3.size
  obtain ⟨n0, n1, n2, n3, n4, f0, f1, f2, f3, f4, f5, r0, r1, r2, r3, r4, r5, hz⟩ := F
  have hz0 : w.heap.size < w2.heap.size := by omega
  go_wp2
  go_region
  all_goals go_wp2
  refine bodyPost_ret (v := .tuple #[.agg #[.string name, .string pol, .string ⟨#[]⟩, .bool false, .int .i64 0, .map none], .nilIface]) ?_ rfl ⟨rfl, ?_⟩
  · simp [results, Ybaf.results5, go_sem, r0, r1, r2, r3, r4, r5, hz]
  · exact (((((((hb3.setCell (by simp) _).setCell (by simp) _).setCell (by simp) _).setCell (by simp) _).setCell (by simp) _).setCell (by simp) _).alloc (by simp; omega) _).drew

set_option maxHeartbeats 1000000 in
set_option maxRecDepth 100000 in
theorem read3 (name pol : ByteArray) (B : Nat) (w : World) (h0 : name.toList.isEmpty = false) (hp : 0 < name.size) (h1 : name.size ≤ 317) (hl : Letters name) (hN : LaidNames w)
    (hpc : w.cell? ⟨B, 1, none⟩ = some (.string pol)) (t : Int) (ht : 0 ≤ t) (htc : w.cell? ⟨B, 4, none⟩ = some (.int .i64 t)) (hpr : (pol.toList == [112, 114, 105, 111, 114, 105, 116, 121]) = true) (hmem : Lib.containsS (pnames.take 4) pol = true) (hne : (pol.toList == [102, 97, 105, 114, 115, 104, 97, 114, 101]) = false) :
    Calls Ybaf.prog 5 #[.agg #[.string name, .pointer (some ⟨B, 1, none⟩), .pointer none, .pointer (some ⟨B, 4, none⟩), .pointer none]] w fun e w' =>
      e = .returned (.tuple #[.agg #[.string name, .string pol, .string ⟨#[]⟩, .bool true, .int .i64 t, .map none], .nilIface]) ∧ Below w.heap.size w w' := by
  obtain ⟨b, off, c, hg, hcs⟩ := hN
  go_enter Ybaf.func5, Ybaf.ntmps5
  go_wp2_with fail
  refine (check_any _ _ _ h0 hp h1 hl).mono ?_
  rintro e w1 ⟨rfl, hb⟩
  have hb2 : Below w.heap.size w w1 := (((Below.refl _ _).alloc (Nat.le_refl _) _).alloc (by simp) _).trans (hb.mono (by simp; omega))
  have hcs1 : ∀ j, j < pnames.length → w1.cell? ⟨b, off + j, none⟩ = some (.string (pnames.getD j ByteArray.empty)) := fun j hj => cell_later hb2 (hcs j hj)
  have F := read_facts hb
  have hpc1 := cell_later hb2 hpc
  have hg1 := cell_later hb2 hg
  obtain ⟨n0, n1, n2, n3, n4, f0, f1, f2, f3, f4, f5, r0, r1, r2, r3, r4, r5, hz⟩ := F
  go_wp2_with fail
  go_quiet ((go_at_call 8; exact Calls.quiet_of_same (Ybaf.slices_Contains_string b off 4 c pnames pol _ (by decide) (by decide) hcs1)))
  have hb3 : Below w.heap.size w (w1.drewN nq) := below_drewN hb2 nq
  have F := read_facts (below_drewN hb nq)
  have hpc2 := cell_later hb3 hpc
  have htc2 := cell_later hb3 htc
  clear hcs1 hpc1 hg1 n0 n1 n2 n3 n4 f0 f1 f2 f3 f4 f5 r0 r1 r2 r3 r4 r5 hz hb hb2
  generalize w1.drewN nq = w2 at hb3 F hpc2 htc2 ⊢
  have hB : B < w2.heap.size := Nat.lt_of_lt_of_le (cell_block hpc) hb3.size
  obtain ⟨n0, n1, n2, n3, n4, f0, f1, f2, f3, f4, f5, r0, r1, r2, r3, r4, r5, hz⟩ := F
  have hz0 : w.heap.size < w2.heap.size := by omega
  go_wp2
  go_region
  go_wp2_with (go_at_call 12; refine (time_any _ _ t _ ht (by first | assumption | (simp [go_sem, htc2, hB]))).mono ?_; rintro e w' ⟨rfl, rfl⟩)
  go_region
  go_wp2
  refine bodyPost_ret (v := .tuple #[.agg #[.string name, .string pol, .string ⟨#[]⟩, .bool true, .int .i64 t, .map none], .nilIface]) ?_ rfl ⟨rfl, ?_⟩
  · simp [results, Ybaf.results5, go_sem, r0, r1, r2, r3, r4, r5, hz]
  · exact ((((((((hb3.setCell (by simp) _).setCell (by simp) _).setCell (by simp) _).setCell (by simp) _).setCell (by simp) _).setCell (by simp) _).alloc (by simp; omega) _).drew).drew

set_option maxHeartbeats 1000000 in
set_option maxRecDepth 100000 in
theorem read4 (name pol : ByteArray) (B : Nat) (w : World) (h0 : name.toList.isEmpty = false) (hp : 0 < name.size) (h1 : name.size ≤ 317) (hl : Letters name) (hN : LaidNames w)
    (hpc : w.cell? ⟨B, 1, none⟩ = some (.string pol)) (hmem : Lib.containsS (pnames.take 4) pol = true) (hne : (pol.toList == [102, 97, 105, 114, 115, 104, 97, 114, 101]) = true) :
    Calls Ybaf.prog 5 #[.agg #[.string name, .pointer (some ⟨B, 1, none⟩), .pointer none, .pointer none, .pointer none]] w fun e w' =>
      e = .returned (.tuple #[.agg #[.string name, .string pol, .string ⟨#[99, 112, 117]⟩, .bool false, .int .i64 0, .map none], .nilIface]) ∧ Below w.heap.size w w' := by
  obtain ⟨b, off, c, hg, hcs⟩ := hN
  go_enter Ybaf.func5, Ybaf.ntmps5
  go_wp2_with fail
  refine (check_any _ _ _ h0 hp h1 hl).mono ?_
  rintro e w1 ⟨rfl, hb⟩
  have hb2 : Below w.heap.size w w1 := (((Below.refl _ _).alloc (Nat.le_refl _) _).alloc (by simp) _).trans (hb.mono (by simp; omega))
  have hcs1 : ∀ j, j < pnames.length → w1.cell? ⟨b, off + j, none⟩ = some (.string (pnames.getD j ByteArray.empty)) := fun j hj => cell_later hb2 (hcs j hj)
  have F := read_facts hb
  have hpc1 := cell_later hb2 hpc
  have hg1 := cell_later hb2 hg
  obtain ⟨n0, n1, n2, n3, n4, f0, f1, f2, f3, f4, f5, r0, r1, r2, r3, r4, r5, hz⟩ := F
  go_wp2_with fail
  go_quiet ((go_at_call 8; exact Calls.quiet_of_same (Ybaf.slices_Contains_string b off 4 c pnames pol _ (by decide) (by decide) hcs1)))
  have hb3 : Below w.heap.size w (w1.drewN nq) := below_drewN hb2 nq
  have F := read_facts (below_drewN hb nq)
  have hpc2 := cell_later hb3 hpc
  clear hcs1 hpc1 hg1 n0 n1 n2 n3 n4 f0 f1 f2 f3 f4 f5 r0 r1 r2 r3 r4 r5 hz hb hb2
  generalize w1.drewN nq = w2 at hb3 F hpc2 ⊢
  have hB : B < w2.heap.size := Nat.lt_of_lt_of_le (cell_block hpc) hb3.size
  obtain ⟨n0, n1, n2, n3, n4, f0, f1, f2, f3, f4, f5, r0, r1, r2, r3, r4, r5, hz⟩ := F
  have hz0 : w.heap.size < w2.heap.size := by omega
  go_wp2
  go_region
  all_goals go_wp2
  refine bodyPost_ret (v := .tuple #[.agg #[.string name, .string pol, .string ⟨#[99, 112, 117]⟩, .bool false, .int .i64 0, .map none], .nilIface]) ?_ rfl ⟨rfl, ?_⟩
  · simp [results, Ybaf.results5, go_sem, r0, r1, r2, r3, r4, r5, hz]
  · exact (((((((hb3.setCell (by simp) _).setCell (by simp) _).setCell (by simp) _).setCell (by simp) _).setCell (by simp) _).setCell (by simp) _).alloc (by simp; omega) _).drew

set_option maxHeartbeats 1000000 in
set_option maxRecDepth 100000 in
theorem read6 (name pol : ByteArray) (B : Nat) (w : World) (h0 : name.toList.isEmpty = false) (hp : 0 < name.size) (h1 : name.size ≤ 317) (hl : Letters name) (hN : LaidNames w)
    (hpc : w.cell? ⟨B, 1, none⟩ = some (.string pol)) (share : ByteArray) (hsc : w.cell? ⟨B, 2, none⟩ = some (.string share)) (hse : share.toList.isEmpty = false) (hmem : Lib.containsS (pnames.take 4) pol = true) (hne : (pol.toList == [102, 97, 105, 114, 115, 104, 97, 114, 101]) = true) :
    Calls Ybaf.prog 5 #[.agg #[.string name, .pointer (some ⟨B, 1, none⟩), .pointer (some ⟨B, 2, none⟩), .pointer none, .pointer none]] w fun e w' =>
      e = .returned (.tuple #[.agg #[.string name, .string pol, .string share, .bool false, .int .i64 0, .map none], .nilIface]) ∧ Below w.heap.size w w' := by
  obtain ⟨b, off, c, hg, hcs⟩ := hN
  go_enter Ybaf.func5, Ybaf.ntmps5
  go_wp2_with fail
  refine (check_any _ _ _ h0 hp h1 hl).mono ?_
  rintro e w1 ⟨rfl, hb⟩
  have hb2 : Below w.heap.size w w1 := (((Below.refl _ _).alloc (Nat.le_refl _) _).alloc (by simp) _).trans (hb.mono (by simp; omega))
  have hcs1 : ∀ j, j < pnames.length → w1.cell? ⟨b, off + j, none⟩ = some (.string (pnames.getD j ByteArray.empty)) := fun j hj => cell_later hb2 (hcs j hj)
  have F := read_facts hb
  have hpc1 := cell_later hb2 hpc
  have hg1 := cell_later hb2 hg
  obtain ⟨n0, n1, n2, n3, n4, f0, f1, f2, f3, f4, f5, r0, r1, r2, r3, r4, r5, hz⟩ := F
  go_wp2_with fail
  go_quiet ((go_at_call 8; exact Calls.quiet_of_same (Ybaf.slices_Contains_string b off 4 c pnames pol _ (by decide) (by decide) hcs1)))
  have hb3 : Below w.heap.size w (w1.drewN nq) := below_drewN hb2 nq
  have F := read_facts (below_drewN hb nq)
  have hpc2 := cell_later hb3 hpc
  have hsc2 := cell_later hb3 hsc
  clear hcs1 hpc1 hg1 n0 n1 n2 n3 n4 f0 f1 f2 f3 f4 f5 r0 r1 r2 r3 r4 r5 hz hb hb2
  generalize w1.drewN nq = w2 at hb3 F hpc2 hsc2 ⊢
  have hB : B < w2.heap.size := Nat.lt_of_lt_of_le (cell_block hpc) hb3.size
  obtain ⟨n0, n1, n2, n3, n4, f0, f1, f2, f3, f4, f5, r0, r1, r2, r3, r4, r5, hz⟩ := F
  have hz0 : w.heap.size < w2.heap.size := by omega
  go_wp2
  go_region
  all_goals go_wp2
  refine bodyPost_ret (v := .tuple #[.agg #[.string name, .string pol, .string share, .bool false, .int .i64 0, .map none], .nilIface]) ?_ rfl ⟨rfl, ?_⟩
  · simp [results, Ybaf.results5, go_sem, r0, r1, r2, r3, r4, r5, hz]
  · exact (((((((hb3.setCell (by simp) _).setCell (by simp) _).setCell (by simp) _).setCell (by simp) _).setCell (by simp) _).setCell (by simp) _).alloc (by simp; omega) _).drew
end Go.Proofs.YbulkbtdoFmt
