/-
  THE WALK OF 'LawS3493BSum': it returns true and writes nothing that was there.
-/
import Derived.Test.YbulkbthwRows
import Derived.WalkKit
import Derived.WalkSpells
import Derived.WalkLawsBesides
namespace Go.Proofs.Ybulkbthw
open Go.RowKit
/-- block B is a row of n cells, cell i holding f i; nothing of it is marked -/
def RowIs (w : World) (B : Nat) (e : TypeId) (n : Nat) (f : Nat → Value) : Prop :=
  ∃ cur, w.heap[B]? = some (.cells cur e (0, 0)) ∧ cur.size = n ∧ ∀ i, i < n → cur[i]? = some (f i)
theorem RowIs.cell {w : World} {B : Nat} {e : TypeId} {n : Nat} {f : Nat → Value} (h : RowIs w B e n f) {i : Nat} (hi : i < n) : w.cell? ⟨B, i, none⟩ = some (f i) := by
  obtain ⟨cur, hb, hs, hc⟩ := h
  simp only [World.cell?, hb]
  exact hc i hi
theorem RowIs.frozen {w : World} {B : Nat} {e : TypeId} {n : Nat} {f : Nat → Value} (h : RowIs w B e n f) (i : Nat) : w.frozen? ⟨B, i, none⟩ = false := by
  obtain ⟨cur, hb, hs, hc⟩ := h
  exact frozen_of_row w B i cur e hb
theorem RowIs.lt {w : World} {B : Nat} {e : TypeId} {n : Nat} {f : Nat → Value} (h : RowIs w B e n f) : B < w.heap.size := by
  obtain ⟨cur, hb, hs, hc⟩ := h
  exact (Array.getElem?_eq_some_iff.1 hb).1
theorem RowIs.set {w : World} {B : Nat} {e : TypeId} {n : Nat} {f : Nat → Value} (h : RowIs w B e n f) {i : Nat} (hi : i < n) (v : Value) :
    RowIs (w.setCell ⟨B, i, none⟩ v) B e n (fun j => if j = i then v else f j) := by
  obtain ⟨cur, hb, hs, hc⟩ := h
  refine ⟨cur.setIfInBounds i v, heap_setCell_same w B i cur e v hb, by simpa using hs, fun j hj => ?_⟩
  by_cases e1 : j = i
  · subst e1
    show _ = some (if j = j then v else f j)
    rw [if_pos rfl]
    simp [hs, hi]
  · show _ = some (if j = i then v else f j)
    rw [if_neg e1, Array.getElem?_setIfInBounds_ne (fun h => e1 h.symm)]
    exact hc j hj
theorem RowIs.ext {w : World} {B : Nat} {e : TypeId} {n : Nat} {f g : Nat → Value} (h : RowIs w B e n f) (hg : ∀ i, i < n → f i = g i) : RowIs w B e n g := by
  obtain ⟨cur, hb, hs, hc⟩ := h
  exact ⟨cur, hb, hs, fun i hi => by rw [← hg i hi]; exact hc i hi⟩
theorem RowIs.below {w w' : World} {B : Nat} {e : TypeId} {n : Nat} {f : Nat → Value} (h : RowIs w B e n f) {b : Nat} (hb : Below b w w') (hB : B < b) : RowIs w' B e n f := by
  obtain ⟨cur, hbl, hs, hc⟩ := h
  exact ⟨cur, (hb.block B hB).trans hbl, hs, hc⟩

theorem RowIs.made (w : World) (C : Array Value) (e : TypeId) : RowIs (w.alloc (.cells C e)) w.heap.size e C.size (fun i => C[i]?.getD undef) :=
  ⟨C, (MapKept.heap_alloc w _).1, rfl, fun i hi => by simp [hi]⟩
theorem RowIs.alloc {w : World} {B : Nat} {e : TypeId} {n : Nat} {f : Nat → Value} (h : RowIs w B e n f) (o : Obj) : RowIs (w.alloc o) B e n f :=
  h.below ((Below.refl w.heap.size w).alloc (Nat.le_refl _) o) h.lt

def sumTo (cnt : Nat → Int) : Nat → Int
  | 0 => 0
  | k + 1 => wrap64 (sumTo cnt k + cnt k)

theorem idx38 {B len cap k : Nat} (hk : k < len) (w : World) :
    (Instr.indexAt 38 (.slice (some ⟨B, 0, none⟩) len cap) (.int .i64 (k : Int))).run Yba.prog w = .ok (.pointer (some ⟨B, k * 3, none⟩)) w := by
  have hs : (sizeOf 42).run Yba.prog w = .ok 3 w := by kernel_rfl
  rw [run_indexAt_slice _ _ _ _ _ _ _ Yba.underlying38]
  rw [if_pos (by omega)]
  show ((sizeOf 42).run Yba.prog w).andThen _ = _
  rw [hs]
  simp [Result.andThen, Addr.add]
  omega

set_option maxHeartbeats 400000 in
set_option maxRecDepth 100000 in
theorem counted_any (sb B n cap : Nat) (cnt : Nat → Int) (w : World) (hn : n ≤ 100000) (hs : w.cell? ⟨sb, 2, none⟩ = some (.slice (some ⟨B, 0, none⟩) n cap))
    (hc : ∀ j, j < n → ∃ key chk, w.cell? ⟨B, j * 3, none⟩ = some (.int .u64 key) ∧ w.cell? ⟨B, j * 3 + 1, none⟩ = some (.int .u32 chk) ∧ w.cell? ⟨B, j * 3 + 2, none⟩ = some (.int .i32 (cnt j))) 
    (hb : ∀ j, j < n → -2147483648 ≤ cnt j ∧ cnt j ≤ 2147483647) :
    Calls Yba.prog 9 #[.pointer (some ⟨sb, 0, none⟩)] w fun e w' => e = .returned (.int .i64 (sumTo cnt n)) ∧ Below w.heap.size w w' := by
  go_enter Yba.func9, Yba.ntmps9
  go_wp2
  go_loopw [3, 11] (fun s i wr => ∃ k : Nat, k ≤ n ∧ i = .int .i64 k ∧ s = .int .i64 (sumTo cnt k) ∧ Below w.heap.size w wr) (fun _ i _ => n - (intOf i).toNat)
  case atStart => exact ⟨0, Nat.zero_le _, rfl, rfl, Below.refl _ _⟩
  case round =>
    obtain ⟨k, hk, rfl, rfl, hbel⟩ := hrel
    by_cases hlt : k < n
    · obtain ⟨key, chk, h1, h2, h3⟩ := hc k hlt
      have hi := fun wz => idx38 (B := B) (cap := cap) hlt wz
      have c1 := cell_later hbel h1
      have c2 := cell_later hbel h2
      have c3 := cell_later hbel h3
      obtain ⟨b1, b2⟩ := hb k hlt
      clear h1 h2 h3
      go_wp2
      go_roundw
      case rel => exact ⟨k + 1, by omega, by go_num, rfl, hbel.alloc hbel.size _⟩
      case measure => simp [intOf]; omega
    · have hk : k = n := by omega
      subst hk
      go_wp2
      go_ret
      exact ⟨rfl, hbel⟩

theorem made42 (n : Nat) (hn : n ≤ 100000) (w : World) : ∃ w1, (Instr.makeSlice 38 (.int .i64 (n : Int)) (.int .i64 (n : Int))).run Yba.prog w = .ok (.slice (some ⟨w.heap.size, 0, none⟩) n n) w1 ∧
    Below w.heap.size w w1 ∧ w1.heap.size = w.heap.size + 1 ∧ ∃ f, RowIs w1 w.heap.size 42 (n * 3) f := by
  obtain ⟨i, hi, hz, hs, hby⟩ : ∃ i, Yba.prog.info? 42 = some i ∧ i.zero = some (.agg #[.int .u64 0, .int .u32 0, .int .i32 0]) ∧ i.size = 3 ∧ i.bytes = 16 := by
    have h : (Yba.prog.info? 42).map (fun i => (i.zero, i.size, i.bytes)) = some (some (.agg #[.int .u64 0, .int .u32 0, .int .i32 0]), 3, 16) := by kernel_rfl
    cases hx : Yba.prog.info? 42 with
    | none => rw [hx] at h; cases h
    | some i =>
      rw [hx] at h
      simp only [Option.map_some, Option.some.injEq, Prod.mk.injEq] at h
      exact ⟨i, rfl, h.1, h.2.1, h.2.2⟩
  have hr := run_make (P := Yba.prog) w 38 42 i _ Yba.underlying38 hi hz .i64 .i64 (n : Int) (n : Int) (by omega) (Int.le_refl _) (by rw [hby]; omega) (by omega)
  simp only [Int.toNat_natCast, hs] at hr
  have hm := RowIs.made w (madeCells (Value.agg #[.int .u64 0, .int .u32 0, .int .i32 0]).cells (n * 3)) 42
  rw [size_madeCells] at hm
  exact ⟨_, hr, (Below.refl _ _).alloc (Nat.le_refl _) _, by simp, _, hm⟩

theorem idx37 {a : Option Addr} {b off len cap k : Nat} (ha : a = some ⟨b, off, none⟩) (hl : 0 < len) (w : World) :
    (Instr.indexAt 37 (.slice a len cap) (.int .i64 ((k : Int) % (len : Int)))).run Yba.prog w = .ok (.pointer (some ⟨b, off + k % len, none⟩)) w := by
  subst ha
  have hk : k % len < len := Nat.mod_lt _ hl
  have hs : (sizeOf 39).run Yba.prog w = .ok 1 w := by kernel_rfl
  rw [← Int.natCast_emod, run_indexAt_slice _ _ _ _ _ _ _ Yba.underlying37]
  rw [if_pos (by omega)]
  show ((sizeOf 39).run Yba.prog w).andThen _ = _
  rw [hs]
  simp only [Result.andThen]
  rw [show (((k % len : Nat) : Int).toNat * 1) = k % len by omega]
  unfold Addr.add
  split
  · simp_all
  · rfl
theorem idx36 {a : Option Addr} {b off len cap k : Nat} (ha : a = some ⟨b, off, none⟩) (hk : k < len) (w : World) :
    (Instr.indexAt 36 (.slice a len cap) (.int .i64 (k : Int))).run Yba.prog w = .ok (.pointer (some ⟨b, off + k, none⟩)) w := by
  subst ha
  have hs : (sizeOf 21).run Yba.prog w = .ok 1 w := by kernel_rfl
  rw [run_indexAt_slice _ _ _ _ _ _ _ Yba.underlying36]
  rw [if_pos (by omega)]
  show ((sizeOf 21).run Yba.prog w).andThen _ = _
  rw [hs]
  simp [Result.andThen, Addr.add]
def CntAt (w : World) (a : Option Addr) (len : Nat) (x : Nat → Int) : Prop :=
  ∀ k, k < len → ∃ b off, a = some ⟨b, off, none⟩ ∧ w.cell? ⟨b, off + k, none⟩ = some (.int .i32 (x k)) ∧ -2147483648 ≤ x k ∧ x k ≤ 2147483647
def KeyAt (w : World) (a : Option Addr) (len : Nat) (x : Nat → Int) : Prop :=
  ∀ k, k < len → ∃ b off, a = some ⟨b, off, none⟩ ∧ w.cell? ⟨b, off + k, none⟩ = some (.int .u64 (x k)) ∧ 0 ≤ x k ∧ x k < 18446744073709551616
/-- cell number j of the sketch has been laid with the j-th count -/
def Laid (f : Nat → Value) (cnt : Nat → Int) (j : Nat) : Prop := ∃ key chk, f (j * 3) = .int .u64 key ∧ f (j * 3 + 1) = .int .u32 chk ∧ f (j * 3 + 2) = .int .i32 (cnt j)
/-- three stores -/
theorem RowIs.three {w : World} {B : Nat} {e : TypeId} {n k : Nat} {f : Nat → Value} {cnt : Nat → Int} (h : RowIs w B e (n * 3) f) (hk : k < n) (hl : ∀ j, j < k → Laid f cnt j) (a b : Int) :
    ∃ g, RowIs (((w.setCell ⟨B, k * 3, none⟩ (.int .u64 a)).setCell ⟨B, k * 3 + 1, none⟩ (.int .u32 b)).setCell ⟨B, k * 3 + 2, none⟩ (.int .i32 (cnt k))) B e (n * 3) g ∧ ∀ j, j < k + 1 → Laid g cnt j := by
  refine ⟨_, ((h.set (by omega) _).set (by omega) _).set (by omega) _, fun j hj => ?_⟩
  by_cases e1 : j = k
  · subst e1
    refine ⟨a, b, ?_, ?_, ?_⟩
    · show (if _ then _ else if _ then _ else if _ then _ else _) = _
      rw [if_neg (by omega), if_neg (by omega), if_pos rfl]
    · show (if _ then _ else if _ then _ else if _ then _ else _) = _
      rw [if_neg (by omega), if_pos rfl]
    · show (if _ then _ else if _ then _ else if _ then _ else _) = _
      rw [if_pos rfl]
  · obtain ⟨key, chk, h1, h2, h3⟩ := hl j (by omega)
    refine ⟨key, chk, ?_, ?_, ?_⟩
    · show (if _ then _ else if _ then _ else if _ then _ else _) = _
      rw [if_neg (by omega), if_neg (by omega), if_neg (by omega)]; exact h1
    · show (if _ then _ else if _ then _ else if _ then _ else _) = _
      rw [if_neg (by omega), if_neg (by omega), if_neg (by omega)]; exact h2
    · show (if _ then _ else if _ then _ else if _ then _ else _) = _
      rw [if_neg (by omega), if_neg (by omega), if_neg (by omega)]; exact h3

set_option maxHeartbeats 400000 in
set_option maxRecDepth 100000 in
theorem sum_any (a0 : Option Addr) (l0 c0 : Nat) (x0 : Nat → Int) (a1 : Option Addr) (l1 c1 : Nat) (x1 : Nat → Int) (w : World) (hn : l0 ≤ 100000) (h0 : CntAt w a0 l0 x0) (h1 : KeyAt w a1 l1 x1) (hl1 : l1 ≤ 9223372036854775807) :
    Calls Yba.prog 4 #[.slice a0 l0 c0, .slice a1 l1 c1] w fun e w' => e = .returned (.bool true) ∧ Below w.heap.size w w' := by
  obtain ⟨w1, hmk, hb1, hsz1, f1, hr1⟩ := made42 l0 hn w
  go_enter Yba.func4, Yba.ntmps4
  go_wp2
  go_loopw [6] (fun i wr => ∃ k : Nat, k ≤ l0 ∧ i = .int .i64 k ∧ Below w.heap.size w wr ∧ wr.heap.size = w.heap.size + 1 ∧ ∃ f, RowIs wr w.heap.size 42 (l0 * 3) f ∧ ∀ j, j < k → Laid f x0 j) (fun i _ => l0 - (intOf i).toNat)
  case atStart => exact ⟨0, Nat.zero_le _, rfl, hb1, hsz1, f1, hr1, fun j hj => absurd hj (by omega)⟩
  case round =>
    obtain ⟨k, hk, rfl, hbel, hsz, f, hrow, hlaid⟩ := hrel
    clear hmk hb1 hsz1 hr1
    by_cases hlt : k < l0
    · obtain ⟨b0, o0, ha0, hc0, hx1, hx2⟩ := h0 k hlt
      have hi0 := fun wz => idx36 (cap := c0) ha0 hlt wz
      have hc0' := cell_later hbel hc0
      have hi := fun wz => idx38 (B := w.heap.size) (cap := l0) hlt wz
      have r0 := hrow.cell (i := k * 3) (by omega)
      have r1 := hrow.cell (i := k * 3 + 1) (by omega)
      have r2 := hrow.cell (i := k * 3 + 2) (by omega)
      have g0 := hrow.frozen (k * 3)
      have g1 := hrow.frozen (k * 3 + 1)
      have g2 := hrow.frozen (k * 3 + 2)
      have T := fun a b => hrow.three hlt hlaid a b
      have HT : Hid (∀ a b : Int, ∃ g, RowIs (((wr.setCell ⟨w.heap.size, k * 3, none⟩ (.int .u64 a)).setCell ⟨w.heap.size, k * 3 + 1, none⟩ (.int .u32 b)).setCell ⟨w.heap.size, k * 3 + 2, none⟩ (.int .i32 (x0 k))) w.heap.size 42 (l0 * 3) g ∧ ∀ j, j < k + 1 → Laid g x0 j) := T
      clear T ha0 hc0 hrow hlaid h0
      generalize x0 k = x at hx1 hx2 hc0' HT
      by_cases hl : 0 < l1
      · obtain ⟨b1, o1, ha1, hc1, hy1, hy2⟩ := h1 (k % l1) (Nat.mod_lt _ hl)
        have hi1 := fun wz => idx37 (k := k) (cap := c1) ha1 hl wz
        have hc1' := cell_later hbel hc1
        generalize x1 (k % l1) = y at hc1 hc1' hy1 hy2
        clear ha1 hc1 h1
        go_wp2
        go_roundw
        case rel => exact ⟨k + 1, by omega, by go_num, ((hbel.setCell (by simp) _).setCell (by simp) _).setCell (by simp) _, by simp [hsz], HT.out _ _⟩
        case measure => simp [intOf]; omega
      · clear h1
        go_wp2
        go_roundw
        case rel => exact ⟨k + 1, by omega, by go_num, ((hbel.setCell (by simp) _).setCell (by simp) _).setCell (by simp) _, by simp [hsz], HT.out _ _⟩
        case measure => simp [intOf]; omega
    · have hk : k = l0 := by omega
      subst hk
      have HR : Hid (RowIs wr w.heap.size 42 (k * 3) f) := hrow
      have HL : Hid (∀ j, j < k → Laid f x0 j) := hlaid
      clear hrow hlaid h1
      go_wp2
      go_loop [9, 10] (fun s i => ∃ j : Nat, j ≤ k ∧ i = .int .i64 j ∧ s = .int .i64 (sumTo x0 j)) (fun _ i => k - (intOf i).toNat)
      case atStart => exact ⟨0, Nat.zero_le _, rfl, rfl⟩
      case round =>
        obtain ⟨j, hj, rfl, rfl⟩ := hrel
        by_cases hlj : j < k
        · obtain ⟨b0, o0, ha0, hc0, hx1, hx2⟩ := h0 j hlj
          have hi0 := fun wz => idx36 (cap := c0) ha0 hlj wz
          have hc0' : ∀ o, (wr.alloc o).cell? ⟨b0, o0 + j, none⟩ = some (.int .i32 (x0 j)) := fun o => cell_later (hbel.alloc hbel.size o) hc0
          clear ha0 hc0 h0
          go_wp2
          go_round
          case rel => exact ⟨j + 1, by omega, by go_num, rfl⟩
          case measure => simp [intOf]; omega
        · have hj : j = k := by omega
          subst hj
          go_wp2_with fail
          refine (counted_any _ w.heap.size j j x0 _ hn ?_ ?_ ?_).mono ?_
          · rw [← hsz]; simp [go_sem]
          · intro i hi
            obtain ⟨key, chk, e1, e2, e3⟩ := HL.out i hi
            have R := HR.out
            refine ⟨key, chk, ?_, ?_, ?_⟩
            · rw [← e1]; exact (R.alloc _).cell (by omega)
            · rw [← e2]; exact (R.alloc _).cell (by omega)
            · rw [← e3]; exact (R.alloc _).cell (by omega)
          · intro i hi
            obtain ⟨_, _, _, _, hx1, hx2⟩ := h0 i hi
            exact ⟨hx1, hx2⟩
          · rintro e w2 ⟨rfl, hb2⟩
            go_wp2
            go_ret
            exact ⟨rfl, (hbel.alloc hbel.size _).trans (hb2.mono (by have := hbel.size; first | omega | (simp; omega)))⟩
end Go.Proofs.Ybulkbthw
