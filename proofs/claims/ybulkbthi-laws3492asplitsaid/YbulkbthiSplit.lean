/-
  THE PLAIN SCAN, isSpace, split.
-/
import Derived.Test.YbulkbthiRows
import Derived.WalkKit
import Derived.WalkSpells
import Derived.WalkLawsBesides
import Derived.RegionTactic
import Derived.BigRegion
import Derived.Deep.QuietTactic
import Derived.BigQuiet
import Derived.Deep.DeepCutAuto
namespace Go.Proofs.Ybulkbthi
open Go.RowKit

/-! ### the plain scan -/
/-- does position j end or part a field? -/
def isSp (c : Int) : Bool := c == 32 || c == 9
def sp (n : Nat) (x : Nat → Int) (j : Nat) : Bool := j == n || isSp (x j)
structure St where
  cnt : Nat
  inn : Bool
  start : Nat
  s : Nat → Nat
  e : Nat → Nat
def stepIn (j : Nat) (t : St) : St := { t with inn := true, start := j }
def stepOut (j : Nat) (t : St) : St := { cnt := t.cnt + 1, inn := false, start := t.start, s := fun k => if k = t.cnt then t.start else t.s k, e := fun k => if k = t.cnt then j else t.e k }
def step (b : Bool) (j : Nat) (t : St) : St := if b then (if t.inn then stepOut j t else t) else (if t.inn then t else stepIn j t)
def run (n : Nat) (x : Nat → Int) : Nat → St
  | 0 => ⟨0, false, 0, fun _ => 0, fun _ => 0⟩
  | j + 1 => step (sp n x j) j (run n x j)
theorem step_out {t : St} (j : Nat) (h : t.inn = true) : step true j t = stepOut j t := by unfold step; rw [if_pos rfl, if_pos h]
theorem step_stay {t : St} (j : Nat) (h : t.inn = false) : step true j t = t := by unfold step; rw [if_pos rfl, if_neg (by rw [h]; decide)]
theorem step_in {t : St} (j : Nat) (h : t.inn = false) : step false j t = stepIn j t := by unfold step; rw [if_neg (by decide), if_neg (by rw [h]; decide)]
theorem step_on {t : St} (j : Nat) (h : t.inn = true) : step false j t = t := by unfold step; rw [if_neg (by decide), if_pos h]
/-- each field lies inside what has been scanned, and is not empty -/
def Inv (j : Nat) (t : St) : Prop := t.cnt ≤ j ∧ (∀ k, k < t.cnt → t.s k < t.e k ∧ t.e k < j) ∧ (t.inn = true → t.start < j)
theorem inv_step {b : Bool} {j : Nat} {t : St} (h : Inv j t) : Inv (j + 1) (step b j t) := by
  obtain ⟨h0, h1, h2⟩ := h
  cases b <;> cases hi : t.inn
  · rw [step_in j hi]
    exact ⟨by show t.cnt ≤ j + 1; omega, fun k hk => ⟨(h1 k hk).1, by have := (h1 k hk).2; show t.e k < j + 1; omega⟩, fun _ => by show j < j + 1; omega⟩
  · rw [step_on j hi]
    exact ⟨by omega, fun k hk => ⟨(h1 k hk).1, by have := (h1 k hk).2; omega⟩, fun _ => by have := h2 hi; omega⟩
  · rw [step_stay j hi]
    exact ⟨by omega, fun k hk => ⟨(h1 k hk).1, by have := (h1 k hk).2; omega⟩, fun h => by rw [hi] at h; cases h⟩
  · rw [step_out j hi]
    refine ⟨by show t.cnt + 1 ≤ j + 1; omega, fun k hk => ?_, fun h => by cases h⟩
    have hk' : k < t.cnt + 1 := hk
    show (if k = t.cnt then t.start else t.s k) < (if k = t.cnt then j else t.e k) ∧ (if k = t.cnt then j else t.e k) < j + 1
    by_cases e : k = t.cnt
    · rw [if_pos e, if_pos e]
      have := h2 hi
      omega
    · rw [if_neg e, if_neg e]
      have := h1 k (by omega)
      omega
theorem inv_run (n : Nat) (x : Nat → Int) : ∀ j, Inv j (run n x j)
  | 0 => ⟨Nat.le_refl _, fun k hk => absurd hk (Nat.not_lt_zero _), fun h => by cases h⟩
  | j + 1 => inv_step (inv_run n x j)

/-! ### rows of cells -/
def RowIs (w : World) (B : Nat) (e : TypeId) (n : Nat) (f : Nat → Value) : Prop :=
  ∃ cur, w.heap[B]? = some (.cells cur e (0, 0)) ∧ cur.size = n ∧ ∀ i, i < n → cur[i]? = some (f i)
theorem RowIs.cell {w : World} {B : Nat} {e : TypeId} {n : Nat} {f : Nat → Value} (h : RowIs w B e n f) {i : Nat} (hi : i < n) : w.cell? ⟨B, i, none⟩ = some (f i) := by
  obtain ⟨cur, hb, hs, hc⟩ := h
  simp only [World.cell?, hb]
  exact hc i hi
theorem RowIs.frozen {w : World} {B : Nat} {e : TypeId} {n : Nat} {f : Nat → Value} (h : RowIs w B e n f) (i : Nat) : w.frozen? ⟨B, i, none⟩ = false := by
  obtain ⟨cur, hb, hs, hc⟩ := h
  exact frozen_of_row w B i cur e hb
theorem RowIs.lt {w : World} {B : Nat} {e : TypeId} {n : Nat} {f : Nat → Value} (h : RowIs w B e n f) : B < w.heap.size := by
  obtain ⟨cur, hb, hs, hc⟩ := h
  exact (Array.getElem?_eq_some_iff.1 hb).1
theorem RowIs.set {w : World} {B : Nat} {e : TypeId} {n : Nat} {f : Nat → Value} (h : RowIs w B e n f) {i : Nat} (hi : i < n) (v : Value) :
    RowIs (w.setCell ⟨B, i, none⟩ v) B e n (fun j => if j = i then v else f j) := by
  obtain ⟨cur, hb, hs, hc⟩ := h
  refine ⟨cur.setIfInBounds i v, heap_setCell_same w B i cur e v hb, by simpa using hs, fun j hj => ?_⟩
  by_cases e1 : j = i
  · subst e1
    show _ = some (if j = j then v else f j)
    rw [if_pos rfl]
    simp [hs, hi]
  · show _ = some (if j = i then v else f j)
    rw [if_neg e1, Array.getElem?_setIfInBounds_ne (fun h => e1 h.symm)]
    exact hc j hj
theorem RowIs.ext {w : World} {B : Nat} {e : TypeId} {n : Nat} {f g : Nat → Value} (h : RowIs w B e n f) (hg : ∀ i, i < n → f i = g i) : RowIs w B e n g := by
  obtain ⟨cur, hb, hs, hc⟩ := h
  exact ⟨cur, hb, hs, fun i hi => by rw [← hg i hi]; exact hc i hi⟩
theorem RowIs.drew {w : World} {B : Nat} {e : TypeId} {n : Nat} {f : Nat → Value} (h : RowIs w B e n f) : RowIs w.drew B e n f := h
theorem RowIs.made (w : World) (C : Array Value) (e : TypeId) : RowIs (w.alloc (.cells C e)) w.heap.size e C.size (fun i => C[i]?.getD undef) :=
  ⟨C, (MapKept.heap_alloc w _).1, rfl, fun i hi => by simp [hi]⟩
theorem RowIs.kept {w w' : World} {B L : Nat} {e : TypeId} {n : Nat} {f : Nat → Value} (h : RowIs w B e n f) (hg : w.grownBy w' (some L)) (hne : B ≠ L) : RowIs w' B e n f := by
  have hlt := h.lt
  obtain ⟨cur, hb, hs, hc⟩ := h
  exact ⟨cur, (hg.block B hlt (by simpa using hne)).trans hb, hs, hc⟩
theorem RowIs.below {w w' : World} {B : Nat} {e : TypeId} {n : Nat} {f : Nat → Value} (h : RowIs w B e n f) {b : Nat} (hb : Below b w w') (hB : B < b) : RowIs w' B e n f := by
  obtain ⟨cur, hbl, hs, hc⟩ := h
  exact ⟨cur, (hb.block B hB).trans hbl, hs, hc⟩
theorem RowIs.alloc {w : World} {B : Nat} {e : TypeId} {n : Nat} {f : Nat → Value} (h : RowIs w B e n f) (o : Obj) : RowIs (w.alloc o) B e n f :=
  h.below ((Below.refl w.heap.size w).alloc (Nat.le_refl _) o) h.lt

theorem grown_set (w : World) (L j : Nat) (v : Value) : w.grownBy (w.setCell ⟨L, j, none⟩ v) (some L) :=
  ⟨rfl, rfl, rfl, by simp, fun k _ hk => heap_setCell_other w ⟨L, j, none⟩ k v (fun e => hk (by simp [e]))⟩
theorem grown_drew {w w' : World} {L : Nat} (h : w.grownBy w' (some L)) : w.grownBy w'.drew (some L) := ⟨h.os, h.tape, h.output, h.size, h.block⟩
theorem grown_refl (w : World) (L : Nat) : w.grownBy w (some L) := ⟨rfl, rfl, rfl, Nat.le_refl _, fun _ _ _ => rfl⟩
theorem grown_trans {a b c : World} {L : Nat} (h : a.grownBy b (some L)) (k : b.grownBy c (some L)) : a.grownBy c (some L) :=
  ⟨k.os.trans h.os, k.tape.trans h.tape, k.output.trans h.output, Nat.le_trans h.size k.size, fun i hi hne => (k.block i (Nat.lt_of_lt_of_le hi h.size) hne).trans (h.block i hi hne)⟩

set_option maxRecDepth 100000 in
theorem isSpace_yes (c : Int) (w : World) (h : isSp c = true) : Calls Yba.prog 5 #[.int .u8 c] w fun e w' => e = .returned (.bool true) ∧ w = w' := by
  unfold isSp at h
  by_cases h1 : (c == 32) = true
  · go_enter Yba.func5, Yba.ntmps5
    go_wp2
    go_ret
    exact ⟨rfl, rfl⟩
  · have h1 : (c == 32) = false := by simpa using h1
    have h2 : (c == 9) = true := by rw [h1] at h; simpa using h
    clear h
    go_enter Yba.func5, Yba.ntmps5
    go_wp2
    go_ret
    exact ⟨rfl, rfl⟩
set_option maxRecDepth 100000 in
theorem isSpace_no (c : Int) (w : World) (h : isSp c = false) : Calls Yba.prog 5 #[.int .u8 c] w fun e w' => e = .returned (.bool false) ∧ w = w' := by
  unfold isSp at h
  rw [Bool.or_eq_false_iff] at h
  obtain ⟨h1, h2⟩ := h
  go_enter Yba.func5, Yba.ntmps5
  go_wp2
  go_ret
  exact ⟨rfl, rfl⟩

/-! ### split -/
def Head (n : Nat) (x : Nat → Int) (i : Nat) (t : St) : Prop := (t = run n x i ∧ t.inn = false) ∨ (sp n x i = true ∧ t = stepOut i (run n x i) ∧ (run n x i).inn = true)
theorem head_space {n : Nat} {x : Nat → Int} {i : Nat} {t : St} (h : Head n x i t) (hs : sp n x i = true) : Head n x (i + 1) t := by
  rcases h with ⟨rfl, hi⟩ | ⟨_, rfl, hi⟩
  · exact Or.inl ⟨by show _ = step (sp n x i) i (run n x i); rw [hs, step_stay i hi], hi⟩
  · exact Or.inl ⟨by show _ = step (sp n x i) i (run n x i); rw [hs, step_out i hi], rfl⟩
theorem head_word {n : Nat} {x : Nat → Int} {i : Nat} {t : St} (h : Head n x i t) (hs : sp n x i = false) : t = run n x i ∧ t.inn = false := by
  rcases h with h | ⟨h, _⟩
  · exact h
  · rw [hs] at h; cases h
theorem run_word {n : Nat} {x : Nat → Int} {i : Nat} (hi : (run n x i).inn = false) : ∀ j, i < j → (∀ m, i ≤ m → m < j → sp n x m = false) → run n x j = stepIn i (run n x i)
  | 0, h, _ => by omega
  | j + 1, h, hm => by
    show step (sp n x j) j (run n x j) = _
    rw [hm j (by omega) (by omega)]
    by_cases e : i = j
    · subst e
      exact step_in i hi
    · rw [run_word hi j (by omega) (fun m h1 h2 => hm m h1 (by omega))]
      exact step_on j rfl
theorem head_end {n : Nat} {x : Nat → Int} {t : St} (h : Head n x n t) : run n x (n + 1) = t := by
  show step (sp n x n) n (run n x n) = _
  have hs : sp n x n = true := by simp [sp]
  rw [hs]
  rcases h with ⟨rfl, hi⟩ | ⟨_, rfl, hi⟩
  · exact step_stay n hi
  · exact step_out n hi
theorem head_new {n : Nat} {x : Nat → Int} {i j : Nat} {t : St} (h : Head n x i t) (hs : sp n x i = false) (hij : i < j) (hm : ∀ m, i ≤ m → m < j → sp n x m = false) (hj : sp n x j = true) :
    Head n x j (stepOut j (stepIn i t)) := by
  obtain ⟨rfl, hi⟩ := head_word h hs
  have hr := run_word hi j hij hm
  exact Or.inr ⟨hj, by rw [hr], by rw [hr]; rfl⟩

theorem sp_lt {n : Nat} {x : Nat → Int} {i : Nat} (h : i < n) (hs : isSp (x i) = false) : sp n x i = false := by
  unfold sp
  rw [hs]
  have : (i == n) = false := by simp; omega
  rw [this]; rfl
theorem inv_head {n : Nat} {x : Nat → Int} {i : Nat} {t : St} (h : Head n x i t) : t.cnt ≤ i + 1 ∧ True := by
  rcases h with ⟨rfl, _⟩ | ⟨_, rfl, _⟩
  · have := (inv_run n x i).1
    exact ⟨by omega, trivial⟩
  · have := (inv_run n x i).1
    exact ⟨by show (run n x i).cnt + 1 ≤ i + 1; omega, trivial⟩
/-- what split has made of the receiver -/
def Res (B n : Nat) (f g : Nat → Value) (t : St) : Prop :=
  g 9 = .int .i64 (t.cnt : Int) ∧ (∀ k, k < 4 → g (5 + k) = if k < t.cnt then .slice (some ⟨B, t.s k, none⟩) (t.e k - t.s k) (n - t.s k) else f (5 + k)) ∧ ∀ i, (i < 5 ∨ i = 10) → g i = f i

theorem res_new {B n : Nat} {f g : Nat → Value} {t : St} (i j : Nat) (h : Res B n f g t) (hc : t.cnt < 4) :
    Res B n f (fun k => if k = 9 then .int .i64 ((t.cnt : Int) + 1) else if k = 5 + t.cnt then .slice (some ⟨B, i, none⟩) (j - i) (n - i) else g k) (stepOut j (stepIn i t)) := by
  obtain ⟨h1, h2, h3⟩ := h
  refine ⟨?_, fun k hk => ?_, fun k hk => ?_⟩
  · show (if 9 = 9 then _ else _) = Value.int .i64 ((t.cnt + 1 : Nat) : Int)
    rw [if_pos rfl]; simp
  · show (if 5 + k = 9 then _ else if 5 + k = 5 + t.cnt then _ else g (5 + k)) = if k < t.cnt + 1 then Value.slice (some ⟨B, (if k = t.cnt then i else t.s k), none⟩) ((if k = t.cnt then j else t.e k) - (if k = t.cnt then i else t.s k)) (n - (if k = t.cnt then i else t.s k)) else f (5 + k)
    rw [if_neg (by omega)]
    by_cases e : k = t.cnt
    · rw [if_pos (by omega), if_pos (by omega), if_pos e, if_pos e]
    · rw [if_neg (by omega), if_neg e, if_neg e, h2 k hk]
      by_cases e2 : k < t.cnt
      · rw [if_pos e2, if_pos (by omega)]
      · rw [if_neg e2, if_neg (by omega)]
  · show (if k = 9 then _ else if k = 5 + t.cnt then _ else g k) = f k
    rw [if_neg (by omega), if_neg (by omega)]
    exact h3 k hk
theorem res_more {B n : Nat} {f g : Nat → Value} {t : St} (i j : Nat) (h : Res B n f g t) (hc : ¬ t.cnt < 4) :
    Res B n f (fun k => if k = 9 then .int .i64 ((t.cnt : Int) + 1) else g k) (stepOut j (stepIn i t)) := by
  obtain ⟨h1, h2, h3⟩ := h
  refine ⟨?_, fun k hk => ?_, fun k hk => ?_⟩
  · show (if 9 = 9 then _ else _) = Value.int .i64 ((t.cnt + 1 : Nat) : Int)
    rw [if_pos rfl]; simp
  · show (if 5 + k = 9 then _ else g (5 + k)) = if k < t.cnt + 1 then Value.slice (some ⟨B, (if k = t.cnt then i else t.s k), none⟩) ((if k = t.cnt then j else t.e k) - (if k = t.cnt then i else t.s k)) (n - (if k = t.cnt then i else t.s k)) else f (5 + k)
    rw [if_neg (by omega), if_neg (show ¬ k = t.cnt by omega), if_neg (show ¬ k = t.cnt by omega), h2 k hk, if_pos (by omega), if_pos (by omega)]
  · show (if k = 9 then _ else g k) = f k
    rw [if_neg (by omega)]
    exact h3 k hk
theorem idx23 {L k : Nat} (hk : k < 4) (w : World) :
    (Instr.indexAt 23 (.pointer (some ⟨L, 5, none⟩)) (.int .i64 (k : Int))).run Yba.prog w = .ok (.pointer (some ⟨L, 5 + k, none⟩)) w := by
  match k, hk with
  | 0, _ => exact (by kernel_rfl : (Instr.indexAt 23 (.pointer (some ⟨L, 5, none⟩)) (.int .i64 0)).run Yba.prog w = .ok (.pointer (some ⟨L, 5, none⟩)) w)
  | 1, _ => exact (by kernel_rfl : (Instr.indexAt 23 (.pointer (some ⟨L, 5, none⟩)) (.int .i64 1)).run Yba.prog w = .ok (.pointer (some ⟨L, 6, none⟩)) w)
  | 2, _ => exact (by kernel_rfl : (Instr.indexAt 23 (.pointer (some ⟨L, 5, none⟩)) (.int .i64 2)).run Yba.prog w = .ok (.pointer (some ⟨L, 7, none⟩)) w)
  | 3, _ => exact (by kernel_rfl : (Instr.indexAt 23 (.pointer (some ⟨L, 5, none⟩)) (.int .i64 3)).run Yba.prog w = .ok (.pointer (some ⟨L, 8, none⟩)) w)
  | m + 4, h => omega
theorem idx22 {b len cap k : Nat} (hk : k < len) (w : World) :
    (Instr.indexAt 22 (.slice (some ⟨b, 0, none⟩) len cap) (.int .i64 (k : Int))).run Yba.prog w = .ok (.pointer (some ⟨b, k, none⟩)) w := by
  have hs : (sizeOf 5).run Yba.prog w = .ok 1 w := by kernel_rfl
  rw [run_indexAt_slice _ _ _ _ _ _ _ Yba.underlying22]
  rw [if_pos (by omega)]
  show ((sizeOf 5).run Yba.prog w).andThen _ = _
  rw [hs]
  simp [Result.andThen, Addr.add]
  omega

set_option maxHeartbeats 1000000 in
set_option maxRecDepth 100000 in
theorem split_any (L B n : Nat) (x : Nat → Int) (f : Nat → Value) (w : World) (hn : n ≤ 4096) (hL : RowIs w L 31 11 f) (hB : ∀ j, j < n → w.cell? ⟨B, j, none⟩ = some (.int .u8 (x j))) (hBlt : n = 0 ∨ B < w.heap.size) (hne : B ≠ L) :
    Calls Yba.prog 4 #[.pointer (some ⟨L, 0, none⟩), .slice (some ⟨B, 0, none⟩) n n] w fun e w' => e = .returned (.tuple #[]) ∧ w.grownBy w' (some L) ∧ ∃ g, RowIs w' L 31 11 g ∧ Res B n f g (run n x (n + 1)) := by
  have c9 := hL.cell (i := 9) (by decide)
  have z9 := hL.frozen 9
  go_enter Yba.func4, Yba.ntmps4
  go_wp2
  go_loopw [4] (fun v wr => ∃ (i : Nat) (t : St), i ≤ n ∧ v = .int .i64 i ∧ Head n x i t ∧ w.grownBy wr (some L) ∧ ∃ g, RowIs wr L 31 11 g ∧ Res B n f g t) (fun v _ => n - (intOf v).toNat)
  case atStart =>
    refine ⟨0, run n x 0, Nat.zero_le _, rfl, Or.inl ⟨rfl, rfl⟩, grown_set _ _ _ _, _, hL.set (by decide) _, ?_⟩
    refine ⟨by simp [run], fun k hk => ?_, fun i hi => ?_⟩
    · show (if 5 + k = 9 then _ else f (5 + k)) = if k < 0 then _ else f (5 + k)
      rw [if_neg (by omega), if_neg (by omega)]
    · show (if i = 9 then _ else f i) = f i
      rw [if_neg (by omega)]
  case round =>
    obtain ⟨i, t, hi, rfl, hh, hg, g, hr, hres⟩ := hrel
    clear c9 z9
    by_cases hlt : i < n
    · have hBi : wr.cell? ⟨B, i, none⟩ = some (.int .u8 (x i)) := by
        have hb : B < w.heap.size := by omega
        have e := hg.block B hb (by simpa using hne)
        have := hB i hlt
        simp only [World.cell?] at this ⊢
        rw [e]; exact this
      have hidx := fun wz => idx22 (b := B) (cap := n) hlt wz
      by_cases hs : isSp (x i) = true
      · have hsp : sp n x i = true := by unfold sp; rw [hs]; simp
        have R1 := head_space hh hsp
        clear hh
        go_wp2_with (go_at_call 5; refine (isSpace_yes _ _ hs).mono ?_; rintro e w' ⟨rfl, rfl⟩)
        go_roundw
        case rel => exact ⟨i + 1, t, by omega, by go_num, R1, hg, g, hr, hres⟩
        case measure => simp [intOf]; omega
      · have hs : isSp (x i) = false := by simpa using hs
        have HH : Hid (Head n x i t) := hh
        have HB : Hid (∀ j, j < n → w.cell? ⟨B, j, none⟩ = some (.int .u8 (x j))) := hB
        clear hh
        go_wp2_with (go_at_call 5; refine (isSpace_no _ _ hs).mono ?_; rintro e w' ⟨rfl, rfl⟩)
        go_loop [4] (fun v => ∃ j : Nat, i ≤ j ∧ j ≤ n ∧ v = .int .i64 j ∧ ∀ m, i ≤ m → m < j → isSp (x m) = false) (fun v => n - (intOf v).toNat)
        case atStart => exact ⟨i, Nat.le_refl _, hi, rfl, fun m h1 h2 => absurd h2 (by omega)⟩
        case round =>
          obtain ⟨j, hij, hj, rfl, hm⟩ := hrel
          have HM : Hid (∀ m, i ≤ m → m < j → isSp (x m) = false) := hm
          clear hm
          by_cases hlj : j < n
          · have hBj : wr.cell? ⟨B, j, none⟩ = some (.int .u8 (x j)) := by
              have hb : B < w.heap.size := by omega
              have e := hg.block B hb (by simpa using hne)
              have := HB.out j hlj
              simp only [World.cell?] at this ⊢
              rw [e]; exact this
            have hidxj := fun wz => idx22 (b := B) (cap := n) hlj wz
            by_cases hsj : isSp (x j) = true
            · have hj' : sp n x j = true := by unfold sp; rw [hsj]; simp
              have hij' : i < j := by
                by_cases e : i = j
                · rw [e] at hs; rw [hs] at hsj; cases hsj
                · omega
              have R1 := head_new HH.out (sp_lt hlt hs) hij' (fun m h1 h2 => sp_lt (by omega) (HM.out m h1 h2)) hj'
              have c9 : wr.cell? ⟨L, 9, none⟩ = some (.int .i64 (t.cnt : Int)) := by rw [hr.cell (by decide), hres.1]
              have z9 := hr.frozen 9
              have hcl := (inv_head HH.out).1
              clear hBi hidx
              by_cases hc4 : t.cnt < 4
              · have R2 := res_new i j hres hc4
                have R3 := (hr.set (i := 5 + t.cnt) (by omega) (.slice (some ⟨B, i, none⟩) (j - i) (n - i))).set (i := 9) (by decide) (.int .i64 ((t.cnt : Int) + 1))
                have R4 := grown_trans hg (grown_trans (grown_set wr L (5 + t.cnt) (.slice (some ⟨B, i, none⟩) (j - i) (n - i))) (grown_set _ L 9 (.int .i64 ((t.cnt : Int) + 1))))
                have c5 := hr.cell (i := 5 + t.cnt) (by omega)
                have z5 := hr.frozen (5 + t.cnt)
                have hi23 := fun wz => idx23 (L := L) hc4 wz
                have hne9 : ¬ 9 = 5 + t.cnt := by omega
                have hne9' : ¬ 5 + t.cnt = 9 := by omega
                clear hr hres hg
                go_wp2_with (go_at_call 5; refine (isSpace_yes _ _ hsj).mono ?_; rintro e w' ⟨rfl, rfl⟩)
                go_region
                go_wp2
                go_roundw
                case rel => exact ⟨j, _, hj, rfl, R1, grown_drew R4, _, R3, R2⟩
                case measure => simp [intOf]; omega
              · have R2 := res_more i j hres hc4
                have R3 := hr.set (i := 9) (by decide) (.int .i64 ((t.cnt : Int) + 1))
                have R4 := grown_trans hg (grown_set wr L 9 (.int .i64 ((t.cnt : Int) + 1)))
                clear hr hres hg
                go_wp2_with (go_at_call 5; refine (isSpace_yes _ _ hsj).mono ?_; rintro e w' ⟨rfl, rfl⟩)
                go_roundw
                case rel => exact ⟨j, _, hj, rfl, R1, R4, _, R3, R2⟩
                case measure => simp [intOf]; omega
            · have hsj : isSp (x j) = false := by simpa using hsj
              clear hBi hidx
              go_wp2_with (go_at_call 5; refine (isSpace_no _ _ hsj).mono ?_; rintro e w' ⟨rfl, rfl⟩)
              go_round
              case rel => exact ⟨j + 1, by omega, by omega, by go_num, fun m h1 h2 => by
                by_cases e : m = j
                · rw [e]; exact hsj
                · exact HM.out m h1 (by omega)⟩
              case measure => simp [intOf]; omega
          · have hjn : j = n := by omega
            have hj' : sp n x j = true := by unfold sp; rw [hjn]; simp
            have hij' : i < j := by omega
            clear hjn
            have R1 := head_new HH.out (sp_lt hlt hs) hij' (fun m h1 h2 => sp_lt (by omega) (HM.out m h1 h2)) hj'
            have c9 : wr.cell? ⟨L, 9, none⟩ = some (.int .i64 (t.cnt : Int)) := by rw [hr.cell (by decide), hres.1]
            have z9 := hr.frozen 9
            have hcl := (inv_head HH.out).1
            clear hBi hidx
            by_cases hc4 : t.cnt < 4
            · have R2 := res_new i j hres hc4
              have R3 := (hr.set (i := 5 + t.cnt) (by omega) (.slice (some ⟨B, i, none⟩) (j - i) (n - i))).set (i := 9) (by decide) (.int .i64 ((t.cnt : Int) + 1))
              have R4 := grown_trans hg (grown_trans (grown_set wr L (5 + t.cnt) (.slice (some ⟨B, i, none⟩) (j - i) (n - i))) (grown_set _ L 9 (.int .i64 ((t.cnt : Int) + 1))))
              have c5 := hr.cell (i := 5 + t.cnt) (by omega)
              have z5 := hr.frozen (5 + t.cnt)
              have hi23 := fun wz => idx23 (L := L) hc4 wz
              have hne9 : ¬ 9 = 5 + t.cnt := by omega
              have hne9' : ¬ 5 + t.cnt = 9 := by omega
              clear hr hres hg
              go_wp2
              go_region
              go_wp2
              go_roundw
              case rel => exact ⟨j, _, hj, rfl, R1, grown_drew R4, _, R3, R2⟩
              case measure => simp [intOf]; omega
            · have R2 := res_more i j hres hc4
              have R3 := hr.set (i := 9) (by decide) (.int .i64 ((t.cnt : Int) + 1))
              have R4 := grown_trans hg (grown_set wr L 9 (.int .i64 ((t.cnt : Int) + 1)))
              clear hr hres hg
              go_wp2
              go_roundw
              case rel => exact ⟨j, _, hj, rfl, R1, R4, _, R3, R2⟩
              case measure => simp [intOf]; omega
    · have hi' : i = n := by omega
      subst hi'
      have HE := head_end hh
      clear hh
      go_wp2
      go_end0
      exact ⟨rfl, hg, g, hr, by rw [HE]; exact hres⟩
end Go.Proofs.Ybulkbthi
