/-
  'workload.readQueue' ON THE ROADS THAT BRING NO ERROR: a maximum is given.
-/
import Derived.Test.YbulkbtdoFmtReadA
namespace Go.Proofs.YbulkbtdoFmt
open Go.RowKit Go.Maps Go.WideMaps

set_option maxHeartbeats 1000000 in
set_option maxRecDepth 100000 in
theorem read2 (name pol : ByteArray) (B : Nat) (w : World) (h0 : name.toList.isEmpty = false) (hp : 0 < name.size) (h1 : name.size ≤ 317) (hl : Letters name) (hN : LaidNames w)
    (hpc : w.cell? ⟨B, 1, none⟩ = some (.string pol)) (M n : Nat) (D : DataW Unit) (hown : Owns w M n D) (hmc : w.cell? ⟨B, 5, none⟩ = some (.map (some M))) (hmem : Lib.containsS (pnames.take 4) pol = true) (hne : (pol.toList == [102, 97, 105, 114, 115, 104, 97, 114, 101]) = false) :
    Calls Ybaf.prog 5 #[.agg #[.string name, .pointer (some ⟨B, 1, none⟩), .pointer none, .pointer none, .pointer (some ⟨B, 5, none⟩)]] w fun e w' =>
      e = .returned (.tuple #[.agg #[.string name, .string pol, .string ⟨#[]⟩, .bool false, .int .i64 0, .map (some M)], .nilIface]) ∧ Below w.heap.size w w' := by
  obtain ⟨b, off, c, hg, hcs⟩ := hN
  have hnm := neqMap28
  go_enter Ybaf.func5, Ybaf.ntmps5
  go_wp2_with fail
  refine (check_any _ _ _ h0 hp h1 hl).mono ?_
  rintro e w1 ⟨rfl, hb⟩
  have hb2 : Below w.heap.size w w1 := (((Below.refl _ _).alloc (Nat.le_refl _) _).alloc (by simp) _).trans (hb.mono (by simp; omega))
  have hcs1 : ∀ j, j < pnames.length → w1.cell? ⟨b, off + j, none⟩ = some (.string (pnames.getD j ByteArray.empty)) := fun j hj => cell_later hb2 (hcs j hj)
  have F := read_facts hb
  have hpc1 := cell_later hb2 hpc
  have hg1 := cell_later hb2 hg
  obtain ⟨n0, n1, n2, n3, n4, f0, f1, f2, f3, f4, f5, r0, r1, r2, r3, r4, r5, hz⟩ := F
  go_wp2_with fail
  go_quiet ((go_at_call 8; exact Calls.quiet_of_same (Ybaf.slices_Contains_string b off 4 c pnames pol _ (by decide) (by decide) hcs1)))
  have hb3 : Below w.heap.size w (w1.drewN nq) := below_drewN hb2 nq
  have F := read_facts (below_drewN hb nq)
  have hpc2 := cell_later hb3 hpc
  have hmc2 := cell_later hb3 hmc
  clear hcs1 hpc1 hg1 n0 n1 n2 n3 n4 f0 f1 f2 f3 f4 f5 r0 r1 r2 r3 r4 r5 hz hb hb2
  generalize w1.drewN nq = w2 at hb3 F hpc2 hmc2 ⊢
  have hB : B < w2.heap.size := Nat.lt_of_lt_of_le (cell_block hpc) hb3.size
  obtain ⟨n0, n1, n2, n3, n4, f0, f1, f2, f3, f4, f5, r0, r1, r2, r3, r4, r5, hz⟩ := F
  have hz0 : w.heap.size < w2.heap.size := by omega
  go_wp2
  go_region
  go_wp2_with fail
  refine (amounts_any _ M n D _ (World.ownsMap.drew ((hown.below hb3).alloc _))).mono ?_
  rintro e w3 ⟨rfl, hb4⟩
  have hb5 : Below w.heap.size w w3 := (hb3.alloc (by omega) _).drew.trans (hb4.mono (by simp; omega))
  have F2 := read_facts2 hb4 hB hmc2 n4 hz (to_six f0 f1 f2 f3 f4 f5) (to_six ⟨_, r0⟩ ⟨_, r1⟩ ⟨_, r2⟩ ⟨_, r3⟩ ⟨_, r4⟩ ⟨_, r5⟩)
  clear hb4 hb3 hpc2 hmc2 n0 n1 n2 n3 n4 f0 f1 f2 f3 f4 f5 r0 r1 r2 r3 r4 r5 hB
  obtain ⟨m5, b4, q0, q1, q2, q3, q4, q5, g5, fz, rz, hz3⟩ := F2
  obtain ⟨f0, f1, f2, f3, f4, f5⟩ := six fz
  obtain ⟨⟨y0, r0⟩, ⟨y1, r1⟩, ⟨y2, r2⟩, ⟨y3, r3⟩, ⟨y4, r4⟩, ⟨y5, r5⟩⟩ := six rz
  clear fz rz
  have hz4 : w.heap.size + 1 < w3.heap.size := by omega
  have hne4 : w.heap.size + 1 ≠ w2.heap.size := by omega
  go_wp2
  refine bodyPost_ret (v := .tuple #[.agg #[.string name, .string pol, .string ⟨#[]⟩, .bool false, .int .i64 0, .map (some M)], .nilIface]) ?_ rfl ⟨rfl, ?_⟩
  · simp [results, Ybaf.results5, go_sem, r0, r1, r2, r3, r4, r5]
  · exact ((((((hb5.setCell (by simp; omega) _).setCell (by simp) _).setCell (by simp) _).setCell (by simp) _).setCell (by simp) _).setCell (by simp) _).setCell (by simp) _

set_option maxHeartbeats 1000000 in
set_option maxRecDepth 100000 in
theorem read5 (name pol : ByteArray) (B : Nat) (w : World) (h0 : name.toList.isEmpty = false) (hp : 0 < name.size) (h1 : name.size ≤ 317) (hl : Letters name) (hN : LaidNames w)
    (hpc : w.cell? ⟨B, 1, none⟩ = some (.string pol)) (M n : Nat) (D : DataW Unit) (hown : Owns w M n D) (hmc : w.cell? ⟨B, 5, none⟩ = some (.map (some M))) (hmem : Lib.containsS (pnames.take 4) pol = true) (hne : (pol.toList == [102, 97, 105, 114, 115, 104, 97, 114, 101]) = true) :
    Calls Ybaf.prog 5 #[.agg #[.string name, .pointer (some ⟨B, 1, none⟩), .pointer none, .pointer none, .pointer (some ⟨B, 5, none⟩)]] w fun e w' =>
      e = .returned (.tuple #[.agg #[.string name, .string pol, .string ⟨#[99, 112, 117]⟩, .bool false, .int .i64 0, .map (some M)], .nilIface]) ∧ Below w.heap.size w w' := by
  obtain ⟨b, off, c, hg, hcs⟩ := hN
  have hnm := neqMap28
  go_enter Ybaf.func5, Ybaf.ntmps5
  go_wp2_with fail
  refine (check_any _ _ _ h0 hp h1 hl).mono ?_
  rintro e w1 ⟨rfl, hb⟩
  have hb2 : Below w.heap.size w w1 := (((Below.refl _ _).alloc (Nat.le_refl _) _).alloc (by simp) _).trans (hb.mono (by simp; omega))
  have hcs1 : ∀ j, j < pnames.length → w1.cell? ⟨b, off + j, none⟩ = some (.string (pnames.getD j ByteArray.empty)) := fun j hj => cell_later hb2 (hcs j hj)
  have F := read_facts hb
  have hpc1 := cell_later hb2 hpc
  have hg1 := cell_later hb2 hg
  obtain ⟨n0, n1, n2, n3, n4, f0, f1, f2, f3, f4, f5, r0, r1, r2, r3, r4, r5, hz⟩ := F
  go_wp2_with fail
  go_quiet ((go_at_call 8; exact Calls.quiet_of_same (Ybaf.slices_Contains_string b off 4 c pnames pol _ (by decide) (by decide) hcs1)))
  have hb3 : Below w.heap.size w (w1.drewN nq) := below_drewN hb2 nq
  have F := read_facts (below_drewN hb nq)
  have hpc2 := cell_later hb3 hpc
  have hmc2 := cell_later hb3 hmc
  clear hcs1 hpc1 hg1 n0 n1 n2 n3 n4 f0 f1 f2 f3 f4 f5 r0 r1 r2 r3 r4 r5 hz hb hb2
  generalize w1.drewN nq = w2 at hb3 F hpc2 hmc2 ⊢
  have hB : B < w2.heap.size := Nat.lt_of_lt_of_le (cell_block hpc) hb3.size
  obtain ⟨n0, n1, n2, n3, n4, f0, f1, f2, f3, f4, f5, r0, r1, r2, r3, r4, r5, hz⟩ := F
  have hz0 : w.heap.size < w2.heap.size := by omega
  go_wp2
  go_region
  go_wp2_with fail
  refine (amounts_any _ M n D _ (World.ownsMap.drew ((hown.below hb3).alloc _))).mono ?_
  rintro e w3 ⟨rfl, hb4⟩
  have hb5 : Below w.heap.size w w3 := (hb3.alloc (by omega) _).drew.trans (hb4.mono (by simp; omega))
  have F2 := read_facts2 hb4 hB hmc2 n4 hz (to_six f0 f1 f2 f3 f4 f5) (to_six ⟨_, r0⟩ ⟨_, r1⟩ ⟨_, r2⟩ ⟨_, r3⟩ ⟨_, r4⟩ ⟨_, r5⟩)
  clear hb4 hb3 hpc2 hmc2 n0 n1 n2 n3 n4 f0 f1 f2 f3 f4 f5 r0 r1 r2 r3 r4 r5 hB
  obtain ⟨m5, b4, q0, q1, q2, q3, q4, q5, g5, fz, rz, hz3⟩ := F2
  obtain ⟨f0, f1, f2, f3, f4, f5⟩ := six fz
  obtain ⟨⟨y0, r0⟩, ⟨y1, r1⟩, ⟨y2, r2⟩, ⟨y3, r3⟩, ⟨y4, r4⟩, ⟨y5, r5⟩⟩ := six rz
  clear fz rz
  have hz4 : w.heap.size + 1 < w3.heap.size := by omega
  have hne4 : w.heap.size + 1 ≠ w2.heap.size := by omega
  go_wp2
  refine bodyPost_ret (v := .tuple #[.agg #[.string name, .string pol, .string ⟨#[99, 112, 117]⟩, .bool false, .int .i64 0, .map (some M)], .nilIface]) ?_ rfl ⟨rfl, ?_⟩
  · simp [results, Ybaf.results5, go_sem, r0, r1, r2, r3, r4, r5]
  · exact ((((((hb5.setCell (by simp; omega) _).setCell (by simp) _).setCell (by simp) _).setCell (by simp) _).setCell (by simp) _).setCell (by simp) _).setCell (by simp) _

set_option maxHeartbeats 1000000 in
set_option maxRecDepth 100000 in
theorem read7 (name pol : ByteArray) (B : Nat) (w : World) (h0 : name.toList.isEmpty = false) (hp : 0 < name.size) (h1 : name.size ≤ 317) (hl : Letters name) (hN : LaidNames w)
    (hpc : w.cell? ⟨B, 1, none⟩ = some (.string pol)) (M n : Nat) (D : DataW Unit) (hown : Owns w M n D) (hmc : w.cell? ⟨B, 5, none⟩ = some (.map (some M))) (share : ByteArray) (hsc : w.cell? ⟨B, 2, none⟩ = some (.string share)) (hse : share.toList.isEmpty = false) (hmem : Lib.containsS (pnames.take 4) pol = true) (hne : (pol.toList == [102, 97, 105, 114, 115, 104, 97, 114, 101]) = true) :
    Calls Ybaf.prog 5 #[.agg #[.string name, .pointer (some ⟨B, 1, none⟩), .pointer (some ⟨B, 2, none⟩), .pointer none, .pointer (some ⟨B, 5, none⟩)]] w fun e w' =>
      e = .returned (.tuple #[.agg #[.string name, .string pol, .string share, .bool false, .int .i64 0, .map (some M)], .nilIface]) ∧ Below w.heap.size w w' := by
  obtain ⟨b, off, c, hg, hcs⟩ := hN
  have hnm := neqMap28
  go_enter Ybaf.func5, Ybaf.ntmps5
  go_wp2_with fail
  refine (check_any _ _ _ h0 hp h1 hl).mono ?_
  rintro e w1 ⟨rfl, hb⟩
  have hb2 : Below w.heap.size w w1 := (((Below.refl _ _).alloc (Nat.le_refl _) _).alloc (by simp) _).trans (hb.mono (by simp; omega))
  have hcs1 : ∀ j, j < pnames.length → w1.cell? ⟨b, off + j, none⟩ = some (.string (pnames.getD j ByteArray.empty)) := fun j hj => cell_later hb2 (hcs j hj)
  have F := read_facts hb
  have hpc1 := cell_later hb2 hpc
  have hg1 := cell_later hb2 hg
  obtain ⟨n0, n1, n2, n3, n4, f0, f1, f2, f3, f4, f5, r0, r1, r2, r3, r4, r5, hz⟩ := F
  go_wp2_with fail
  go_quiet ((go_at_call 8; exact Calls.quiet_of_same (Ybaf.slices_Contains_string b off 4 c pnames pol _ (by decide) (by decide) hcs1)))
  have hb3 : Below w.heap.size w (w1.drewN nq) := below_drewN hb2 nq
  have F := read_facts (below_drewN hb nq)
  have hpc2 := cell_later hb3 hpc
  have hmc2 := cell_later hb3 hmc
  have hsc2 := cell_later hb3 hsc
  clear hcs1 hpc1 hg1 n0 n1 n2 n3 n4 f0 f1 f2 f3 f4 f5 r0 r1 r2 r3 r4 r5 hz hb hb2
  generalize w1.drewN nq = w2 at hb3 F hpc2 hmc2 hsc2 ⊢
  have hB : B < w2.heap.size := Nat.lt_of_lt_of_le (cell_block hpc) hb3.size
  obtain ⟨n0, n1, n2, n3, n4, f0, f1, f2, f3, f4, f5, r0, r1, r2, r3, r4, r5, hz⟩ := F
  have hz0 : w.heap.size < w2.heap.size := by omega
  go_wp2
  go_region
  go_wp2_with fail
  refine (amounts_any _ M n D _ (World.ownsMap.drew ((hown.below hb3).alloc _))).mono ?_
  rintro e w3 ⟨rfl, hb4⟩
  have hb5 : Below w.heap.size w w3 := (hb3.alloc (by omega) _).drew.trans (hb4.mono (by simp; omega))
  have F2 := read_facts2 hb4 hB hmc2 n4 hz (to_six f0 f1 f2 f3 f4 f5) (to_six ⟨_, r0⟩ ⟨_, r1⟩ ⟨_, r2⟩ ⟨_, r3⟩ ⟨_, r4⟩ ⟨_, r5⟩)
  clear hb4 hb3 hpc2 hmc2 n0 n1 n2 n3 n4 f0 f1 f2 f3 f4 f5 r0 r1 r2 r3 r4 r5 hB
  obtain ⟨m5, b4, q0, q1, q2, q3, q4, q5, g5, fz, rz, hz3⟩ := F2
  obtain ⟨f0, f1, f2, f3, f4, f5⟩ := six fz
  obtain ⟨⟨y0, r0⟩, ⟨y1, r1⟩, ⟨y2, r2⟩, ⟨y3, r3⟩, ⟨y4, r4⟩, ⟨y5, r5⟩⟩ := six rz
  clear fz rz
  have hz4 : w.heap.size + 1 < w3.heap.size := by omega
  have hne4 : w.heap.size + 1 ≠ w2.heap.size := by omega
  go_wp2
  refine bodyPost_ret (v := .tuple #[.agg #[.string name, .string pol, .string share, .bool false, .int .i64 0, .map (some M)], .nilIface]) ?_ rfl ⟨rfl, ?_⟩
  · simp [results, Ybaf.results5, go_sem, r0, r1, r2, r3, r4, r5]
  · exact ((((((hb5.setCell (by simp; omega) _).setCell (by simp) _).setCell (by simp) _).setCell (by simp) _).setCell (by simp) _).setCell (by simp) _).setCell (by simp) _
end Go.Proofs.YbulkbtdoFmt
