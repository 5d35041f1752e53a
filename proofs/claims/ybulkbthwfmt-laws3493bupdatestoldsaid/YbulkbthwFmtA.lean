import Derived.Test.YbulkbthwFmtRows
import Derived.Test.YbulkbthwFmtShelf
import Derived.Test.YbulkbthwFmtPlain
import Derived.WalkKit
import Derived.WalkSpells
import Derived.WalkLawsBesides
import Derived.RegionTactic
import Derived.BigRegion
import Derived.Deep.QuietTactic
import Derived.BigQuiet
import Derived.Deep.DeepCutAuto
namespace Go.Proofs.YbulkbthwFmt
open Go.RowKit

/-! ### rows of cells -/
def RowIs (w : World) (B : Nat) (e : TypeId) (n : Nat) (f : Nat → Value) : Prop :=
  ∃ cur, w.heap[B]? = some (.cells cur e (0, 0)) ∧ cur.size = n ∧ ∀ i, i < n → cur[i]? = some (f i)
theorem RowIs.cell {w : World} {B : Nat} {e : TypeId} {n : Nat} {f : Nat → Value} (h : RowIs w B e n f) {i : Nat} (hi : i < n) : w.cell? ⟨B, i, none⟩ = some (f i) := by
  obtain ⟨cur, hb, hs, hc⟩ := h
  simp only [World.cell?, hb]
  exact hc i hi
theorem RowIs.frozen {w : World} {B : Nat} {e : TypeId} {n : Nat} {f : Nat → Value} (h : RowIs w B e n f) (i : Nat) : w.frozen? ⟨B, i, none⟩ = false := by
  obtain ⟨cur, hb, hs, hc⟩ := h
  exact frozen_of_row w B i cur e hb
theorem RowIs.lt {w : World} {B : Nat} {e : TypeId} {n : Nat} {f : Nat → Value} (h : RowIs w B e n f) : B < w.heap.size := by
  obtain ⟨cur, hb, hs, hc⟩ := h
  exact (Array.getElem?_eq_some_iff.1 hb).1
theorem RowIs.set {w : World} {B : Nat} {e : TypeId} {n : Nat} {f : Nat → Value} (h : RowIs w B e n f) {i : Nat} (hi : i < n) (v : Value) :
    RowIs (w.setCell ⟨B, i, none⟩ v) B e n (fun j => if j = i then v else f j) := by
  obtain ⟨cur, hb, hs, hc⟩ := h
  refine ⟨cur.setIfInBounds i v, heap_setCell_same w B i cur e v hb, by simpa using hs, fun j hj => ?_⟩
  by_cases e1 : j = i
  · subst e1
    show _ = some (if j = j then v else f j)
    rw [if_pos rfl]
    simp [hs, hi]
  · show _ = some (if j = i then v else f j)
    rw [if_neg e1, Array.getElem?_setIfInBounds_ne (fun h => e1 h.symm)]
    exact hc j hj
theorem RowIs.ext {w : World} {B : Nat} {e : TypeId} {n : Nat} {f g : Nat → Value} (h : RowIs w B e n f) (hg : ∀ i, i < n → f i = g i) : RowIs w B e n g := by
  obtain ⟨cur, hb, hs, hc⟩ := h
  exact ⟨cur, hb, hs, fun i hi => by rw [← hg i hi]; exact hc i hi⟩
theorem RowIs.drew {w : World} {B : Nat} {e : TypeId} {n : Nat} {f : Nat → Value} (h : RowIs w B e n f) : RowIs w.drew B e n f := h
theorem RowIs.made (w : World) (C : Array Value) (e : TypeId) : RowIs (w.alloc (.cells C e)) w.heap.size e C.size (fun i => C[i]?.getD undef) :=
  ⟨C, (MapKept.heap_alloc w _).1, rfl, fun i hi => by simp [hi]⟩
theorem RowIs.kept {w w' : World} {B L : Nat} {e : TypeId} {n : Nat} {f : Nat → Value} (h : RowIs w B e n f) (hg : w.grownBy w' (some L)) (hne : B ≠ L) : RowIs w' B e n f := by
  have hlt := h.lt
  obtain ⟨cur, hb, hs, hc⟩ := h
  exact ⟨cur, (hg.block B hlt (by simpa using hne)).trans hb, hs, hc⟩
theorem RowIs.below {w w' : World} {B : Nat} {e : TypeId} {n : Nat} {f : Nat → Value} (h : RowIs w B e n f) {b : Nat} (hb : Below b w w') (hB : B < b) : RowIs w' B e n f := by
  obtain ⟨cur, hbl, hs, hc⟩ := h
  exact ⟨cur, (hb.block B hB).trans hbl, hs, hc⟩
theorem RowIs.alloc {w : World} {B : Nat} {e : TypeId} {n : Nat} {f : Nat → Value} (h : RowIs w B e n f) (o : Obj) : RowIs (w.alloc o) B e n f :=
  h.below ((Below.refl w.heap.size w).alloc (Nat.le_refl _) o) h.lt

theorem grown_set (w : World) (L j : Nat) (v : Value) : w.grownBy (w.setCell ⟨L, j, none⟩ v) (some L) :=
  ⟨rfl, rfl, rfl, by simp, fun k _ hk => heap_setCell_other w ⟨L, j, none⟩ k v (fun e => hk (by simp [e]))⟩
theorem grown_drew {w w' : World} {L : Nat} (h : w.grownBy w' (some L)) : w.grownBy w'.drew (some L) := ⟨h.os, h.tape, h.output, h.size, h.block⟩
theorem grown_refl (w : World) (L : Nat) : w.grownBy w (some L) := ⟨rfl, rfl, rfl, Nat.le_refl _, fun _ _ _ => rfl⟩
theorem grown_trans {a b c : World} {L : Nat} (h : a.grownBy b (some L)) (k : b.grownBy c (some L)) : a.grownBy c (some L) :=
  ⟨k.os.trans h.os, k.tape.trans h.tape, k.output.trans h.output, Nat.le_trans h.size k.size, fun i hi hne => (k.block i (Nat.lt_of_lt_of_le hi h.size) hne).trans (h.block i hi hne)⟩


theorem mix_form (X : Nat) (hX : X < 18446744073709551616) :
    bits BinOp.xor IntKind.u64 (IntKind.u64.wrap (bits BinOp.xor IntKind.u64 (IntKind.u64.wrap (bits BinOp.xor IntKind.u64 (X : Int) ((X : Int) / 1073741824) * 13787848793156543929)) (IntKind.u64.wrap (bits BinOp.xor IntKind.u64 (X : Int) ((X : Int) / 1073741824) * 13787848793156543929) / 134217728) * 10723151780598845931))
      (IntKind.u64.wrap (bits BinOp.xor IntKind.u64 (IntKind.u64.wrap (bits BinOp.xor IntKind.u64 (X : Int) ((X : Int) / 1073741824) * 13787848793156543929)) (IntKind.u64.wrap (bits BinOp.xor IntKind.u64 (X : Int) ((X : Int) / 1073741824) * 13787848793156543929) / 134217728) * 10723151780598845931) / 2147483648) = (mixN X : Int) := by
  obtain ⟨Y, hY⟩ : ∃ Y, Y = xsh X 1073741824 * 13787848793156543929 % 18446744073709551616 := ⟨_, rfl⟩
  have e1 : IntKind.u64.wrap (bits BinOp.xor IntKind.u64 (X : Int) ((X : Int) / 1073741824) * 13787848793156543929) = (Y : Int) := by
    rw [hY]; exact mixStep_u64 X 1073741824 13787848793156543929 hX
  have h2 : Y < 18446744073709551616 := by rw [hY]; exact Nat.mod_lt _ (by decide)
  obtain ⟨Z, hZ⟩ : ∃ Z, Z = xsh Y 134217728 * 10723151780598845931 % 18446744073709551616 := ⟨_, rfl⟩
  have e2 : IntKind.u64.wrap (bits BinOp.xor IntKind.u64 (Y : Int) ((Y : Int) / 134217728) * 10723151780598845931) = (Z : Int) := by
    rw [hZ]; exact mixStep_u64 Y 134217728 10723151780598845931 h2
  have h3 : Z < 18446744073709551616 := by rw [hZ]; exact Nat.mod_lt _ (by decide)
  have e3 : mixN X = xsh Z 2147483648 := by unfold mixN; rw [← hY, ← hZ]
  rw [e1, e2, e3]
  exact xorShift_u64 Z 2147483648 h3
theorem ret_int {k : IntKind} {a b : Int} (h : a = b) : Ending.returned (.int k a) = .returned (.int k b) := by rw [h]
set_option maxHeartbeats 400000 in
set_option maxRecDepth 100000 in
theorem mix_any (X : Nat) (w : World) (hX : X < 18446744073709551616) : Calls Ybaf.prog 13 #[.int .u64 (X : Int)] w fun e w' => e = .returned (.int .u64 (mixN X : Int)) ∧ w = w' := by
  go_enter Ybaf.func13, Ybaf.ntmps13
  go_wp2
  go_ret
  exact ⟨ret_int (mix_form X hX), rfl⟩
theorem arg_form (h step : Nat) : IntKind.u64.wrap ((h : Int) + IntKind.u64.wrap ((step : Int) * 11400714819323198485)) = (((h + step * 11400714819323198485 % 18446744073709551616) % 18446744073709551616 : Nat) : Int) := by
  rw [IntKind.wrap_u64, IntKind.wrap_u64]
  omega
theorem cell_form (h step n : Nat) (hc : cellN h step n < 9223372036854775808) : wrap64 ((mixN ((h + step * 11400714819323198485) % 18446744073709551616) : Int) * (n : Int) / 18446744073709551616) = (cellN h step n : Int) := by
  have e : cellN h step n = mixN ((h + step * 11400714819323198485) % 18446744073709551616) * n / 18446744073709551616 := by
    unfold cellN
    rw [Nat.add_mod_mod]
  rw [e] at hc ⊢
  generalize mixN ((h + step * 11400714819323198485) % 18446744073709551616) = A at *
  have e2 : ((A : Int) * (n : Int) / 18446744073709551616) = ((A * n / 18446744073709551616 : Nat) : Int) := by
    rw [Int.natCast_ediv, Int.natCast_mul]; rfl
  rw [e2]
  generalize A * n / 18446744073709551616 = B at hc
  unfold wrap64
  omega
set_option maxHeartbeats 400000 in
set_option maxRecDepth 100000 in
theorem cellAt_any (h step n : Nat) (w : World) (hn : n < 4294967296) (hn0 : 0 < n) :
    Calls Ybaf.prog 14 #[.int .u64 (h : Int), .int .u64 (step : Int), .int .u64 (n : Int)] w fun e w' => e = .returned (.int .i64 (cellN h step n : Int)) ∧ w = w' := by
  go_enter Ybaf.func14, Ybaf.ntmps14
  go_wp2_with fail
  rw [arg_form h step]
  refine (mix_any _ _ (Nat.mod_lt _ (by decide))).mono ?_
  rintro e w' ⟨rfl, rfl⟩
  go_wp2_with fail
  refine (Ybaf.bits_Mul64 _ n (mixN_lt _) (by omega) _).mono ?_
  rintro e w' ⟨rfl, rfl⟩
  have hc := cellN_lt h step n hn0
  go_wp2
  go_ret
  exact ⟨ret_int (cell_form h step n (by omega)), rfl⟩
set_option maxHeartbeats 400000 in
set_option maxRecDepth 100000 in
theorem checkHash_any (X : Nat) (w : World) (hX : X < 18446744073709551616) : Calls Ybaf.prog 9 #[.int .u64 (X : Int)] w fun e w' => (∃ c : Int, e = .returned (.int .u32 c)) ∧ w = w' := by
  have e := bits_xor_u64_nat X 1376283091369227076 hX (by decide)
  have e : bits .xor .u64 (X : Int) 1376283091369227076 = ((X ^^^ 1376283091369227076 : Nat) : Int) := e
  have hl : X ^^^ 1376283091369227076 < 2 ^ 64 := Nat.xor_lt_two_pow hX (by decide)
  have HE : Hid (bits .xor .u64 (X : Int) 1376283091369227076 = ((X ^^^ 1376283091369227076 : Nat) : Int)) := e
  clear e
  go_enter Ybaf.func9, Ybaf.ntmps9
  go_wp2_with fail
  rw [HE.out]
  refine (mix_any _ _ hl).mono ?_
  rintro e w' ⟨rfl, rfl⟩
  go_wp2
  go_ret
  exact ⟨⟨_, rfl⟩, rfl⟩

theorem cellAt_1 (h n : Nat) (w : World) (hn : n < 4294967296) (hn0 : 0 < n) : Calls Ybaf.prog 14 #[.int .u64 (h : Int), .int .u64 1, .int .u64 (n : Int)] w fun e w' => e = .returned (.int .i64 (cellN h 1 n : Int)) ∧ w = w' := cellAt_any h 1 n w hn hn0
theorem cellAt_2 (h n : Nat) (w : World) (hn : n < 4294967296) (hn0 : 0 < n) : Calls Ybaf.prog 14 #[.int .u64 (h : Int), .int .u64 2, .int .u64 (n : Int)] w fun e w' => e = .returned (.int .i64 (cellN h 2 n : Int)) ∧ w = w' := cellAt_any h 2 n w hn hn0
theorem cellAt_3 (h n : Nat) (w : World) (hn : n < 4294967296) (hn0 : 0 < n) : Calls Ybaf.prog 14 #[.int .u64 (h : Int), .int .u64 3, .int .u64 (n : Int)] w fun e w' => e = .returned (.int .i64 (cellN h 3 n : Int)) ∧ w = w' := cellAt_any h 3 n w hn hn0
theorem cellAt_4 (h n : Nat) (w : World) (hn : n < 4294967296) (hn0 : 0 < n) : Calls Ybaf.prog 14 #[.int .u64 (h : Int), .int .u64 4, .int .u64 (n : Int)] w fun e w' => e = .returned (.int .i64 (cellN h 4 n : Int)) ∧ w = w' := cellAt_any h 4 n w hn hn0

theorem cell_kept {w wr : World} {b sb o : Nat} {v : Value} (hg : w.grownBy wr (some b)) (hne : sb ≠ b) (h : w.cell? ⟨sb, o, none⟩ = some v) : wr.cell? ⟨sb, o, none⟩ = some v := by
  have hlt : sb < w.heap.size := by
    by_cases hb : sb < w.heap.size
    · exact hb
    · exfalso
      simp [World.cell?, Array.getElem?_eq_none (show w.heap.size ≤ sb by omega)] at h
  have e := hg.block sb hlt (by simpa using hne)
  simp only [World.cell?] at h ⊢
  rw [e]; exact h
theorem next_step {r st : Nat} (h : (1 + r) % 18446744073709551616 = st) : Value.int .u64 (IntKind.u64.wrap ((st : Int) + 1)) = .int .u64 (((1 + (r + 1)) % 18446744073709551616 : Nat) : Int) := by
  congr 1
  rw [IntKind.wrap_u64, ← h]
  omega
theorem grown_alloc (w : World) (b : Nat) (o : Obj) : w.grownBy (w.alloc o) (some b) := by
  have h := World.grownBy_alloc w o none
  exact ⟨h.os, h.tape, h.output, h.size, fun i hi _ => h.block i hi (by simp)⟩
theorem app_room (b k : Nat) (v : Int) (g : Nat → Value) (wr : World) (hk : k < 8) (hr : RowIs wr b 31 8 g) :
    ∀ ty, (Builtin.append_ #[32, 32] ty #[.slice (some ⟨b, 0, none⟩) k 8, .slice (some ⟨wr.heap.size, 0, none⟩) 1 1]).run Ybaf.prog (wr.alloc (.cells #[.int .i64 v] 3)) = .ok (.slice (some ⟨b, 0, none⟩) (k + 1) 8) ((wr.alloc (.cells #[.int .i64 v] 3)).setCell ⟨b, k, none⟩ (.int .i64 v)) := by
  intro ty
  obtain ⟨i, hi, hs⟩ : ∃ i, Ybaf.prog.info? 3 = some i ∧ i.size = 1 := by
    have h : (Ybaf.prog.info? 3).map (fun i => i.size) = some 1 := by kernel_rfl
    cases hx : Ybaf.prog.info? 3 with
    | none => rw [hx] at h; cases h
    | some i =>
      rw [hx] at h
      simp only [Option.map_some, Option.some.injEq] at h
      exact ⟨i, rfl, h⟩
  have hr1 := hr.alloc (.cells #[.int .i64 v] 3)
  have h := run_append_room_cells (P := Ybaf.prog) (wr.alloc (.cells #[.int .i64 v] 3)) 32 ty 3 i Ybaf.underlying32 hi b 0 k 8 ⟨wr.heap.size, 0, none⟩ 1 1 [.int .i64 v] (by rw [hs]; rfl)
    (fun j u hj => by
      match j with
      | 0 =>
        simp at hj
        subst hj
        simp [go_sem, Addr.add]
      | m + 1 => simp at hj) (by simp [Value.oneCell']) (by omega)
    (fun j hj => by
      have : j = 0 := by simpa using hj
      subst this
      rw [hs]
      simp only [Nat.zero_add, Nat.mul_one, Nat.add_zero]
      rw [hr1.cell hk]; rfl)
    (fun j hj => by
      have : j = 0 := by simpa using hj
      subst this
      rw [hs]
      simp only [Nat.zero_add, Nat.mul_one, Nat.add_zero]
      exact hr1.frozen k)
  rw [hs] at h
  simpa [World.setCells] using h

end Go.Proofs.YbulkbthwFmt
