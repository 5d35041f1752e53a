/-
  THE WALK OF 'graph.LawS3492ASplit': it returns true and writes nothing that was there.
-/
import Derived.Test.YbulkbthiSplit
import Derived.Laws.CopyRow
import Derived.Laws.IdiomCopy
import Derived.LaidEqlPtr
namespace Go.Proofs.Ybulkbthi
open Go.RowKit

def BytesAt (w : World) (a : Option Addr) (len : Nat) (x : Nat → Int) : Prop :=
  ∀ k, k < len → ∃ b off, a = some ⟨b, off, none⟩ ∧ w.cell? ⟨b, off + k, none⟩ = some (.int .u8 (x k))

theorem make_copy (a0 : Option Addr) (n c0 : Nat) (x : Nat → Int) (w : World) (h0 : BytesAt w a0 n x) (hn : n ≤ 4096) :
    ∃ w1 w2, (Instr.makeSlice 22 (.int .i64 (n : Int)) (.int .i64 (n : Int))).run Yba.prog w = .ok (.slice (some ⟨w.heap.size, 0, none⟩) n n) w1 ∧
      (∀ ty, (Builtin.copy_ #[22, 22] ty #[.slice (some ⟨w.heap.size, 0, none⟩) n n, .slice a0 n c0]).run Yba.prog w1 = .ok (goInt n) w2) ∧
      Below w.heap.size w w2 ∧ w2.heap.size = w.heap.size + 1 ∧ RowIs w2 w.heap.size 5 n (fun j => .int .u8 (x j)) := by
  obtain ⟨i, hi, hz, hs, hby⟩ : ∃ i, Yba.prog.info? 5 = some i ∧ i.zero = some (.int .u8 0) ∧ i.size = 1 ∧ i.bytes = 1 := by
    have h : (Yba.prog.info? 5).map (fun i => (i.zero, i.size, i.bytes)) = some (some (.int .u8 0), 1, 1) := by kernel_rfl
    cases hx : Yba.prog.info? 5 with
    | none => rw [hx] at h; cases h
    | some i =>
      rw [hx] at h
      simp only [Option.map_some, Option.some.injEq, Prod.mk.injEq] at h
      exact ⟨i, rfl, h.1, h.2.1, h.2.2⟩
  have hr := run_make (P := Yba.prog) w 22 5 i _ Yba.underlying22 hi hz .i64 .i64 (n : Int) (n : Int) (by omega) (Int.le_refl _) (by rw [hby]; omega) (by omega)
  simp only [Int.toNat_natCast, hs, Nat.mul_one] at hr
  have hsz : (Yba.prog.info? 5).map (·.size) = some 1 := by kernel_rfl
  have hb1 : Below w.heap.size w (w.alloc (.cells (madeCells (Value.int .u8 0).cells n) 5)) := (Below.refl _ _).alloc (Nat.le_refl _) _
  have hg : (w.alloc (.cells (madeCells (Value.int .u8 0).cells n) 5)).heap[w.heap.size]? = some (.cells (madeCells (Value.int .u8 0).cells n) 5 (0, 0)) := (MapKept.heap_alloc w _).1
  by_cases h : n = 0
  · subst h
    refine ⟨_, _, hr, fun ty => run_copy_none (P := Yba.prog) _ 22 22 ty 5 _ _ 0 0 0 c0 Yba.underlying22 hsz (by decide), hb1, by simp, ?_⟩
    exact ⟨_, hg, size_madeCells _ _, fun i hi => by omega⟩
  · obtain ⟨b, off, rfl, _⟩ := h0 0 (by omega)
    have hc := fun ty => run_copy_row Yba.prog (w.alloc (.cells (madeCells (Value.int .u8 0).cells n) 5)) 22 22 ty 5 w.heap.size 0 n n ⟨b, off, none⟩ n c0 (madeCells (Value.int .u8 0).cells n) 5 ((List.range n).map (fun j => Value.int .u8 (x j)))
      Yba.underlying22 hsz hg (by simp) (fun j v hj => by
        have hjn : j < n := by
          have := (List.getElem?_eq_some_iff.1 hj).1
          simpa using this
        have e : ((List.range n).map (fun j => Value.int .u8 (x j)))[j]? = some (.int .u8 (x j)) := by simp [hjn]
        rw [e] at hj
        obtain rfl := Option.some.inj hj
        obtain ⟨b', off', e', hcell⟩ := h0 j hjn
        cases e'
        have := cell_later hb1 hcell
        unfold Addr.add
        split
        · rename_i hz
          have : j = 0 := by simpa using hz
          subst this
          simpa using this
        · exact this) (by rw [size_madeCells]; simp) (fun v hv => by
        obtain ⟨j, _, rfl⟩ := List.mem_map.1 hv
        rfl)
    simp only [List.length_map, List.length_range] at hc
    refine ⟨_, _, hr, hc, ?_, ?_, ?_⟩
    · exact hb1.trans ⟨rfl, rfl, rfl, by simp [World.setRow], fun k hk => setRow_other _ _ k _ (by omega)⟩
    · simp [World.setRow]
    · refine ⟨_, setRow_heap _ _ _ _ 5 (0, 0) hg, ?_, fun i hi => ?_⟩
      · have := size_madeCells (Value.int .u8 0).cells n
        simp [this]
      · simp only [List.take_zero, List.nil_append]
        rw [List.getElem?_toArray, List.getElem?_append_left (by simpa using hi)]
        simp [hi]

/-- the four sentinels' slices, their rows laid from block b on -/
def sentF (b : Nat) : Nat → Value
  | 0 => .slice (some ⟨b, 0, none⟩) 1 1
  | 1 => .slice (some ⟨b + 1, 0, none⟩) 1 1
  | 2 => .slice (some ⟨b + 1 + 1, 0, none⟩) 1 1
  | _ => .slice (some ⟨b + 1 + 1 + 1, 0, none⟩) 1 1
/-- the receiver as the law lays it -/
def lineF (b : Nat) (pre : Int) : Nat → Value
  | 0 => .slice none 0 0
  | 1 => .pointer none
  | 2 => .pointer none
  | 3 => .string ⟨#[110]⟩
  | 4 => .int .i64 7
  | 5 => sentF b 0
  | 6 => sentF b 1
  | 7 => sentF b 2
  | 8 => sentF b 3
  | 9 => .int .i64 pre
  | _ => .nilIface
abbrev laidW (w2 : World) (pre : Int) : World :=
  (((((w2.alloc (.cells #[.int .u8 120] 5)).alloc (.cells #[.int .u8 121] 5)).alloc (.cells #[.int .u8 122] 5)).alloc (.cells #[.int .u8 119] 5)).alloc
    (.cells #[.slice (some ⟨w2.heap.size, 0, none⟩) 1 1, .slice (some ⟨w2.heap.size + 1, 0, none⟩) 1 1, .slice (some ⟨w2.heap.size + 1 + 1, 0, none⟩) 1 1, .slice (some ⟨w2.heap.size + 1 + 1 + 1, 0, none⟩) 1 1] 23)).alloc
    (.cells #[.slice none 0 0, .pointer none, .pointer none, .string ⟨#[110]⟩, .int .i64 7, .slice (some ⟨w2.heap.size, 0, none⟩) 1 1, .slice (some ⟨w2.heap.size + 1, 0, none⟩) 1 1, .slice (some ⟨w2.heap.size + 1 + 1, 0, none⟩) 1 1, .slice (some ⟨w2.heap.size + 1 + 1 + 1, 0, none⟩) 1 1, .int .i64 pre, .nilIface] 31)
theorem split_here (n : Nat) (x : Nat → Int) (pre : Int) (w w2 : World) (hn : n ≤ 4096) (hb2 : Below w.heap.size w w2) (hz : w2.heap.size = w.heap.size + 1) (hrow2 : RowIs w2 w.heap.size 5 n (fun j => .int .u8 (x j))) :
    Calls Yba.prog 4 #[.pointer (some ⟨w2.heap.size + 1 + 1 + 1 + 1 + 1, 0, none⟩), .slice (some ⟨w.heap.size, 0, none⟩) n n] (laidW w2 pre) fun e w' => e = .returned (.tuple #[]) ∧
      Below w.heap.size w w' ∧ w2.heap.size + 1 + 1 + 1 + 1 + 1 < w'.heap.size ∧ RowIs w' w.heap.size 5 n (fun j => .int .u8 (x j)) ∧ RowIs w' (w2.heap.size + 1 + 1 + 1 + 1) 23 4 (sentF w2.heap.size) ∧
      ∃ g, RowIs w' (w2.heap.size + 1 + 1 + 1 + 1 + 1) 31 11 g ∧ Res w.heap.size n (lineF w2.heap.size pre) g (run n x (n + 1)) := by
  have hL : RowIs (laidW w2 pre) (w2.heap.size + 1 + 1 + 1 + 1 + 1) 31 11 (lineF w2.heap.size pre) := by
    have h := RowIs.made (((((w2.alloc (.cells #[.int .u8 120] 5)).alloc (.cells #[.int .u8 121] 5)).alloc (.cells #[.int .u8 122] 5)).alloc (.cells #[.int .u8 119] 5)).alloc
      (.cells #[.slice (some ⟨w2.heap.size, 0, none⟩) 1 1, .slice (some ⟨w2.heap.size + 1, 0, none⟩) 1 1, .slice (some ⟨w2.heap.size + 1 + 1, 0, none⟩) 1 1, .slice (some ⟨w2.heap.size + 1 + 1 + 1, 0, none⟩) 1 1] 23))
      #[.slice none 0 0, .pointer none, .pointer none, .string ⟨#[110]⟩, .int .i64 7, .slice (some ⟨w2.heap.size, 0, none⟩) 1 1, .slice (some ⟨w2.heap.size + 1, 0, none⟩) 1 1, .slice (some ⟨w2.heap.size + 1 + 1, 0, none⟩) 1 1, .slice (some ⟨w2.heap.size + 1 + 1 + 1, 0, none⟩) 1 1, .int .i64 pre, .nilIface] 31
    have e : (((((w2.alloc (.cells #[.int .u8 120] 5)).alloc (.cells #[.int .u8 121] 5)).alloc (.cells #[.int .u8 122] 5)).alloc (.cells #[.int .u8 119] 5)).alloc
      (.cells #[.slice (some ⟨w2.heap.size, 0, none⟩) 1 1, .slice (some ⟨w2.heap.size + 1, 0, none⟩) 1 1, .slice (some ⟨w2.heap.size + 1 + 1, 0, none⟩) 1 1, .slice (some ⟨w2.heap.size + 1 + 1 + 1, 0, none⟩) 1 1] 23)).heap.size = w2.heap.size + 1 + 1 + 1 + 1 + 1 := by simp
    rw [e] at h
    refine h.ext fun i hi => ?_
    match i, hi with
    | 0, _ => rfl
    | 1, _ => rfl
    | 2, _ => rfl
    | 3, _ => rfl
    | 4, _ => rfl
    | 5, _ => rfl
    | 6, _ => rfl
    | 7, _ => rfl
    | 8, _ => rfl
    | 9, _ => rfl
    | 10, _ => rfl
    | m + 11, h => exact absurd h (by simp)
  have hS : RowIs (laidW w2 pre) (w2.heap.size + 1 + 1 + 1 + 1) 23 4 (sentF w2.heap.size) := by
    have h := RowIs.made ((((w2.alloc (.cells #[.int .u8 120] 5)).alloc (.cells #[.int .u8 121] 5)).alloc (.cells #[.int .u8 122] 5)).alloc (.cells #[.int .u8 119] 5))
      #[.slice (some ⟨w2.heap.size, 0, none⟩) 1 1, .slice (some ⟨w2.heap.size + 1, 0, none⟩) 1 1, .slice (some ⟨w2.heap.size + 1 + 1, 0, none⟩) 1 1, .slice (some ⟨w2.heap.size + 1 + 1 + 1, 0, none⟩) 1 1] 23
    have e : ((((w2.alloc (.cells #[.int .u8 120] 5)).alloc (.cells #[.int .u8 121] 5)).alloc (.cells #[.int .u8 122] 5)).alloc (.cells #[.int .u8 119] 5)).heap.size = w2.heap.size + 1 + 1 + 1 + 1 := by simp
    rw [e] at h
    refine (h.alloc _).ext fun i hi => ?_
    match i, hi with
    | 0, _ => rfl
    | 1, _ => rfl
    | 2, _ => rfl
    | 3, _ => rfl
    | m + 4, h => exact absurd h (by simp)
  have hB : RowIs (laidW w2 pre) w.heap.size 5 n (fun j => .int .u8 (x j)) := (((((hrow2.alloc _).alloc _).alloc _).alloc _).alloc _).alloc _
  have hbW : Below w.heap.size w (laidW w2 pre) := (((((hb2.alloc (by omega) _).alloc (by simp; omega) _).alloc (by simp; omega) _).alloc (by simp; omega) _).alloc (by simp; omega) _).alloc (by simp; omega) _
  refine (split_any _ w.heap.size n x (lineF w2.heap.size pre) (laidW w2 pre) hn hL (fun j hj => hB.cell hj) (Or.inr hB.lt) (by omega)).mono ?_
  rintro e w' ⟨rfl, hg, g, hg1, hres⟩
  refine ⟨rfl, hbW.grown hg hbW.size (fun j hj => by cases hj; omega), ?_, hB.kept hg (by omega), hS.kept hg (by omega), g, hg1, hres⟩
  have := hg1.lt
  exact this

/-- the arrays 'starts' and 'ends' -/
def arr (t : St) (h : Nat → Nat) : Nat → Value := fun k => .int .i64 ((if k < t.cnt then h k else 0 : Nat) : Int)
theorem arr_out {t : St} {w : World} {T : Nat} {h : Nat → Nat} {v : Nat} (hr : RowIs w T 33 4 (arr t h)) (hc : t.cnt < 4) :
    RowIs (w.setCell ⟨T, t.cnt, none⟩ (.int .i64 (v : Int))) T 33 4 (fun k => .int .i64 ((if k < t.cnt + 1 then (if k = t.cnt then v else h k) else 0 : Nat) : Int)) := by
  refine (hr.set hc _).ext fun k hk => ?_
  show (if k = t.cnt then _ else arr t h k) = _
  by_cases e : k = t.cnt
  · rw [if_pos e, if_pos (by omega), if_pos e]
  · rw [if_neg e]
    show Value.int .i64 ((if k < t.cnt then h k else 0 : Nat) : Int) = _
    by_cases e2 : k < t.cnt
    · rw [if_pos e2, if_pos (by omega), if_neg e]
    · rw [if_neg e2, if_neg (by omega)]
theorem arr_more {t : St} {w : World} {T : Nat} {h : Nat → Nat} {v : Nat} (hr : RowIs w T 33 4 (arr t h)) (hc : ¬ t.cnt < 4) :
    RowIs w T 33 4 (fun k => .int .i64 ((if k < t.cnt + 1 then (if k = t.cnt then v else h k) else 0 : Nat) : Int)) := by
  refine hr.ext fun k hk => ?_
  show Value.int .i64 ((if k < t.cnt then h k else 0 : Nat) : Int) = _
  rw [if_pos (by omega), if_pos (by omega), if_neg (by omega)]
theorem idx33 {T k : Nat} (hk : k < 4) (w : World) :
    (Instr.indexAt 33 (.pointer (some ⟨T, 0, none⟩)) (.int .i64 (k : Int))).run Yba.prog w = .ok (.pointer (some ⟨T, k, none⟩)) w := by
  match k, hk with
  | 0, _ => exact (by kernel_rfl : (Instr.indexAt 33 (.pointer (some ⟨T, 0, none⟩)) (.int .i64 0)).run Yba.prog w = .ok (.pointer (some ⟨T, 0, none⟩)) w)
  | 1, _ => exact (by kernel_rfl : (Instr.indexAt 33 (.pointer (some ⟨T, 0, none⟩)) (.int .i64 1)).run Yba.prog w = .ok (.pointer (some ⟨T, 1, none⟩)) w)
  | 2, _ => exact (by kernel_rfl : (Instr.indexAt 33 (.pointer (some ⟨T, 0, none⟩)) (.int .i64 2)).run Yba.prog w = .ok (.pointer (some ⟨T, 2, none⟩)) w)
  | 3, _ => exact (by kernel_rfl : (Instr.indexAt 33 (.pointer (some ⟨T, 0, none⟩)) (.int .i64 3)).run Yba.prog w = .ok (.pointer (some ⟨T, 3, none⟩)) w)
  | m + 4, h => omega
/-- what stands in memory behind split and the model's scan -/
def Mem (w wr : World) (B S L T n : Nat) (x : Nat → Int) (b : Nat) (g : Nat → Value) (t : St) : Prop :=
  Below w.heap.size w wr ∧ RowIs wr B 5 n (fun j => .int .u8 (x j)) ∧ RowIs wr S 23 4 (sentF b) ∧ RowIs wr L 31 11 g ∧ RowIs wr T 33 4 (arr t t.s) ∧ RowIs wr (T + 1) 33 4 (arr t t.e)
theorem RowIs.drewN {w : World} {B : Nat} {e : TypeId} {n : Nat} {f : Nat → Value} (h : RowIs w B e n f) (q : Nat) : RowIs (w.drewN q) B e n f := by
  obtain ⟨cur, hb, hs, hc⟩ := h
  exact ⟨cur, by simpa [World.drewN] using hb, hs, hc⟩
theorem Mem.drewN {w wr : World} {B S L T n : Nat} {x : Nat → Int} {b : Nat} {g : Nat → Value} {t : St} (h : Mem w wr B S L T n x b g t) (q : Nat) : Mem w (wr.drewN q) B S L T n x b g t :=
  ⟨below_drewN h.1 q, h.2.1.drewN q, h.2.2.1.drewN q, h.2.2.2.1.drewN q, h.2.2.2.2.1.drewN q, h.2.2.2.2.2.drewN q⟩
theorem sent_form (b k : Nat) : ∃ bk, sentF b k = .slice (some ⟨bk, 0, none⟩) 1 1 := by
  match k with
  | 0 => exact ⟨_, rfl⟩
  | 1 => exact ⟨_, rfl⟩
  | 2 => exact ⟨_, rfl⟩
  | n + 3 => exact ⟨_, rfl⟩
theorem line_sent (b : Nat) (pre : Int) (k : Nat) (hk : k < 4) : lineF b pre (5 + k) = sentF b k := by
  match k, hk with
  | 0, _ => rfl
  | 1, _ => rfl
  | 2, _ => rfl
  | 3, _ => rfl
  | m + 4, h => omega
theorem idx23s {L k : Nat} (hk : k < 4) (w : World) :
    (Instr.indexAt 23 (.pointer (some ⟨L, 0, none⟩)) (.int .i64 (k : Int))).run Yba.prog w = .ok (.pointer (some ⟨L, k, none⟩)) w := by
  match k, hk with
  | 0, _ => exact (by kernel_rfl : (Instr.indexAt 23 (.pointer (some ⟨L, 0, none⟩)) (.int .i64 0)).run Yba.prog w = .ok (.pointer (some ⟨L, 0, none⟩)) w)
  | 1, _ => exact (by kernel_rfl : (Instr.indexAt 23 (.pointer (some ⟨L, 0, none⟩)) (.int .i64 1)).run Yba.prog w = .ok (.pointer (some ⟨L, 1, none⟩)) w)
  | 2, _ => exact (by kernel_rfl : (Instr.indexAt 23 (.pointer (some ⟨L, 0, none⟩)) (.int .i64 2)).run Yba.prog w = .ok (.pointer (some ⟨L, 2, none⟩)) w)
  | 3, _ => exact (by kernel_rfl : (Instr.indexAt 23 (.pointer (some ⟨L, 0, none⟩)) (.int .i64 3)).run Yba.prog w = .ok (.pointer (some ⟨L, 3, none⟩)) w)
  | m + 4, h => omega
theorem idx22a {a : Option Addr} {b off len cap k : Nat} (ha : a = some ⟨b, off, none⟩) (hk : k < len) (w : World) :
    (Instr.indexAt 22 (.slice a len cap) (.int .i64 (k : Int))).run Yba.prog w = .ok (.pointer (some ⟨b, off + k, none⟩)) w := by
  subst ha
  have hs : (sizeOf 5).run Yba.prog w = .ok 1 w := by kernel_rfl
  rw [run_indexAt_slice _ _ _ _ _ _ _ Yba.underlying22]
  rw [if_pos (by omega)]
  show ((sizeOf 5).run Yba.prog w).andThen _ = _
  rw [hs]
  simp [Result.andThen, Addr.add]
theorem idx22z (b o len cap : Nat) (h : 0 < len) (w : World) :
    (Instr.indexAt 22 (.slice (some ⟨b, o, none⟩) len cap) (.int .i64 0)).run Yba.prog w = .ok (.pointer (some ⟨b, o, none⟩)) w := by
  have hs : (sizeOf 5).run Yba.prog w = .ok 1 w := by kernel_rfl
  rw [run_indexAt_slice _ _ _ _ _ _ _ Yba.underlying22]
  rw [if_pos (by omega)]
  show ((sizeOf 5).run Yba.prog w).andThen _ = _
  rw [hs]
  simp [Result.andThen, Addr.add]
theorem neqPtr (a : Addr) (w : World) : (binOp .neq 34 (.pointer (some a)) (.pointer (some a))).run Yba.prog w = .ok (.bool false) w := by
  obtain ⟨j, hj⟩ : ∃ j, Yba.prog.info? 5 = some j := by
    have h : (Yba.prog.info? 5).isSome = true := by kernel_rfl
    exact Option.isSome_iff_exists.1 h
  have h : ∀ d : Nat, (Op.equalIn (d + 1) 34 (.pointer (some a)) (.pointer (some a))).run Yba.prog w = .ok true w := fun d => by
    simp [Op.equalIn, run_underlying Yba.underlying34, sizeOf, typeInfo, hj, run_sameAddr_same]
  simp only [binOp]
  simp [Op.equal, Op.maxDepth, h 9999]
theorem run_succ (n : Nat) (x : Nat → Int) (j : Nat) : run n x (j + 1) = step (sp n x j) j (run n x j) := rfl
theorem arr_start (w3 : World) : RowIs ((w3.alloc (.cells #[.int .i64 0, .int .i64 0, .int .i64 0, .int .i64 0] 33)).alloc (.cells #[.int .i64 0, .int .i64 0, .int .i64 0, .int .i64 0] 33)) w3.heap.size 33 4 (arr (run 0 (fun _ => 0) 0) (fun _ => 0)) ∧
    RowIs ((w3.alloc (.cells #[.int .i64 0, .int .i64 0, .int .i64 0, .int .i64 0] 33)).alloc (.cells #[.int .i64 0, .int .i64 0, .int .i64 0, .int .i64 0] 33)) (w3.heap.size + 1) 33 4 (arr (run 0 (fun _ => 0) 0) (fun _ => 0)) := by
  have e : (w3.alloc (.cells #[.int .i64 0, .int .i64 0, .int .i64 0, .int .i64 0] 33)).heap.size = w3.heap.size + 1 := by simp
  have z : ∀ i, i < 4 → (fun i => (#[Value.int .i64 0, .int .i64 0, .int .i64 0, .int .i64 0])[i]?.getD undef) i = arr (run 0 (fun _ => 0) 0) (fun _ => 0) i := by
    intro i hi
    match i, hi with
    | 0, _ => rfl
    | 1, _ => rfl
    | 2, _ => rfl
    | 3, _ => rfl
    | m + 4, h => omega
  refine ⟨((RowIs.made w3 _ 33).alloc _).ext z, ?_⟩
  have h := RowIs.made (w3.alloc (.cells #[.int .i64 0, .int .i64 0, .int .i64 0, .int .i64 0] 33)) #[.int .i64 0, .int .i64 0, .int .i64 0, .int .i64 0] 33
  rw [e] at h
  exact h.ext z

set_option maxHeartbeats 1000000 in
set_option maxRecDepth 100000 in
theorem law_any (a0 : Option Addr) (n c0 : Nat) (x : Nat → Int) (pre : Int) (w : World) (hn : n ≤ 4096) (h0 : BytesAt w a0 n x) :
    Calls Yba.prog 3 #[.slice a0 n c0, .int .i64 pre] w fun e w' => e = .returned (.bool true) ∧ Below w.heap.size w w' := by
  obtain ⟨w1, w2, hmk, hcp, hb2, hsz2, hrow2⟩ := make_copy a0 n c0 x w h0 hn
  have HZ : Hid (w2.heap.size = w.heap.size + 1) := hsz2
  clear hsz2
  go_enter Yba.func3, Yba.ntmps3
  go_wp2_with fail
  refine (split_here n x pre w w2 hn hb2 HZ.out hrow2).mono ?_
  rintro e w3 ⟨rfl, hb3, hs3, hB3, hS3, g, hL3, hres⟩
  clear hmk hcp hb2 hrow2
  go_wp2_with fail
  go_loopg [8, 11, 12, 13] (n + 1) (fun gk s8 s11 s12 s13 wr => ∃ j : Nat, j ≤ n + 1 ∧ gk = n + 1 - j ∧ s13 = .int .i64 j ∧ s8 = .int .i64 ((run n x j).cnt : Int) ∧ s11 = .bool (run n x j).inn ∧ s12 = .int .i64 ((run n x j).start : Int) ∧
    Below w3.heap.size w3 wr ∧ RowIs wr w3.heap.size 33 4 (arr (run n x j) (run n x j).s) ∧ RowIs wr (w3.heap.size + 1) 33 4 (arr (run n x j) (run n x j).e))
  case atStart => exact ⟨0, Nat.zero_le _, rfl, rfl, rfl, rfl, rfl, ((Below.refl _ _).alloc (Nat.le_refl _) _).alloc (by simp) _, (arr_start w3).1, (arr_start w3).2⟩
  case round =>
    obtain ⟨j, hj, rfl, rfl, rfl, rfl, rfl, hb4, hT1, hT2⟩ := hrel
    by_cases hjn : j ≤ n
    · have hrs := run_succ n x j
      have HRS : Hid (run n x (j + 1) = step (sp n x j) j (run n x j)) := hrs
      have hcj := (inv_run n x j).1
      have hst : (run n x j).inn = true → (run n x j).start < j := (inv_run n x j).2.2
      have HB : Hid (RowIs w3 w.heap.size 5 n (fun j => .int .u8 (x j))) := hB3
      clear hrs hres hL3 hS3 hB3
      generalize run n x j = t at *
      go_upto_region 15 with fail
      go_cut [14] (fun s14 wx => s14 = .bool (sp n x j) ∧ wr = wx)
      case first => as_aux_lemma =>
        by_cases hjl : j < n
        · have e1 : ((j : Int) == (n : Int)) = false := by simp; omega
          have e2 : (j == n) = false := by simp; omega
          have hc := (HB.out.below hb4 HB.out.lt).cell hjl
          have hidx := fun wz => idx22 (b := w.heap.size) (cap := n) hjl wz
          by_cases e3 : (x j == 32) = true
          · have E : sp n x j = true := by unfold sp isSp; rw [e2, e3]; rfl
            go_wp2_with fail
            go_meet
            exact ⟨by rw [E], rfl⟩
          · have e3 : (x j == 32) = false := by simpa using e3
            by_cases e4 : (x j == 9) = true
            · have E : sp n x j = true := by unfold sp isSp; rw [e2, e3, e4]; rfl
              go_wp2_with fail
              go_meet
              exact ⟨by rw [E], rfl⟩
            · have e4 : (x j == 9) = false := by simpa using e4
              have E : sp n x j = false := by unfold sp isSp; rw [e2, e3, e4]; rfl
              go_wp2_with fail
              go_meet
              exact ⟨by rw [E], rfl⟩
        · have hjl : j = n := by omega
          have e1 : ((j : Int) == (n : Int)) = true := by simp; omega
          have E : sp n x j = true := by unfold sp; rw [hjl]; simp
          clear hjl
          go_wp2_with fail
          go_meet
          exact ⟨by rw [E], rfl⟩
      case rest =>
      obtain ⟨rfl, rfl⟩ := hcut
      have hsz4 := hb4.size
      cases hsp : sp n x j <;> cases hinn : t.inn
      · -- no separator, outside: a field opens
        have E := HRS.out
        rw [hsp, step_in j hinn] at E
        have HE : Hid (run n x (j + 1) = stepIn j t) := E
        clear E HRS
        go_wp2
        go_roundg (n + 1 - (j + 1))
        case measure => omega
        case rel =>
          refine ⟨j + 1, by omega, rfl, by go_num, ?_, ?_, ?_, hb4, ?_, ?_⟩
          · rw [HE.out]; rfl
          · rw [HE.out]; rfl
          · rw [HE.out]; rfl
          · rw [HE.out]; exact hT1
          · rw [HE.out]; exact hT2
      · -- no separator, inside
        have E := HRS.out
        rw [hsp, step_on j hinn] at E
        have HE : Hid (run n x (j + 1) = t) := E
        clear E HRS
        go_wp2
        go_roundg (n + 1 - (j + 1))
        case measure => omega
        case rel =>
          refine ⟨j + 1, by omega, rfl, by go_num, ?_, ?_, ?_, hb4, ?_, ?_⟩
          · rw [HE.out]
          · rw [HE.out, hinn]
          · rw [HE.out]
          · rw [HE.out]; exact hT1
          · rw [HE.out]; exact hT2
      · -- a separator, outside
        have E := HRS.out
        rw [hsp, step_stay j hinn] at E
        have HE : Hid (run n x (j + 1) = t) := E
        clear E HRS
        go_wp2
        go_roundg (n + 1 - (j + 1))
        case measure => omega
        case rel =>
          refine ⟨j + 1, by omega, rfl, by go_num, ?_, ?_, ?_, hb4, ?_, ?_⟩
          · rw [HE.out]
          · rw [HE.out, hinn]
          · rw [HE.out]
          · rw [HE.out]; exact hT1
          · rw [HE.out]; exact hT2
      · -- a separator, inside: the field ends
        have E := HRS.out
        rw [hsp, step_out j hinn] at E
        have HE : Hid (run n x (j + 1) = stepOut j t) := E
        clear E HRS
        by_cases hc4 : t.cnt < 4
        · have r1 := hT1.cell hc4
          have r2 := hT2.cell hc4
          have z1 := hT1.frozen t.cnt
          have z2 := hT2.frozen t.cnt
          have hi1 := fun wz => idx33 (T := w3.heap.size) hc4 wz
          have hi2 := fun wz => idx33 (T := w3.heap.size + 1) hc4 wz
          have hne1 : ¬ w3.heap.size + 1 = w3.heap.size := by omega
          have hne2 : ¬ w3.heap.size = w3.heap.size + 1 := by omega
          have R1 := (arr_out (v := t.start) hT1 hc4).kept (grown_set _ (w3.heap.size + 1) t.cnt (.int .i64 (j : Int))) (by omega)
          have R2 := arr_out (v := j) (hT2.kept (grown_set wr w3.heap.size t.cnt (.int .i64 (t.start : Int))) (by omega)) hc4
          have HR1 : Hid (RowIs _ w3.heap.size 33 4 _) := R1
          have HR2 : Hid (RowIs _ (w3.heap.size + 1) 33 4 _) := R2
          clear hT1 hT2 R1 R2
          go_wp2
          go_roundg (n + 1 - (j + 1))
          case measure => omega
          case rel =>
            refine ⟨j + 1, by omega, rfl, by go_num, ?_, ?_, ?_, (hb4.setCell (by simp) _).setCell (by simp) _, ?_, ?_⟩
            · rw [HE.out]; show _ = Value.int .i64 ((t.cnt + 1 : Nat) : Int); go_num
            · rw [HE.out]; rfl
            · rw [HE.out]; rfl
            · rw [HE.out]; exact HR1.out
            · rw [HE.out]; exact HR2.out
        · have R1 := arr_more (v := t.start) hT1 hc4
          have R2 := arr_more (v := j) hT2 hc4
          have HR1 : Hid (RowIs _ w3.heap.size 33 4 _) := R1
          have HR2 : Hid (RowIs _ (w3.heap.size + 1) 33 4 _) := R2
          clear hT1 hT2 R1 R2
          go_wp2
          go_roundg (n + 1 - (j + 1))
          case measure => omega
          case rel =>
            refine ⟨j + 1, by omega, rfl, by go_num, ?_, ?_, ?_, hb4, ?_, ?_⟩
            · rw [HE.out]; show _ = Value.int .i64 ((t.cnt + 1 : Nat) : Int); go_num
            · rw [HE.out]; rfl
            · rw [HE.out]; rfl
            · rw [HE.out]; exact HR1.out
            · rw [HE.out]; exact HR2.out
    · have hje : j = n + 1 := by omega
      subst hje
      obtain ⟨t, ht⟩ : ∃ t, t = run n x (n + 1) := ⟨_, rfl⟩
      have hinv := inv_run n x (n + 1)
      rw [← ht] at hres hT1 hT2 hinv ⊢
      have hnc : t.cnt ≤ n + 1 := hinv.1
      have HI : Hid (∀ k, k < t.cnt → t.s k < t.e k ∧ t.e k < n + 1) := hinv.2.1
      have M : Mem w wr w.heap.size (w2.heap.size + 1 + 1 + 1 + 1) (w2.heap.size + 1 + 1 + 1 + 1 + 1) w3.heap.size n x w2.heap.size g t := ⟨hb3.trans (hb4.mono hb3.size), hB3.below hb4 hB3.lt, hS3.below hb4 hS3.lt, hL3.below hb4 hL3.lt, hT1, hT2⟩
      have c9 : wr.cell? ⟨w2.heap.size + 1 + 1 + 1 + 1 + 1, 9, none⟩ = some (.int .i64 (t.cnt : Int)) := by rw [M.2.2.2.1.cell (by decide), hres.1]
      clear ht hinv hB3 hS3 hL3 hT1 hT2 hb4 hb3 hs3
      go_wp2
      clear c9
      go_loopw [15] (fun v wz => ∃ k : Nat, k ≤ 4 ∧ v = .int .i64 k ∧ Mem w wz w.heap.size (w2.heap.size + 1 + 1 + 1 + 1) (w2.heap.size + 1 + 1 + 1 + 1 + 1) w3.heap.size n x w2.heap.size g t) (fun v _ => 4 - (intOf v).toNat)
      case atStart => exact ⟨0, Nat.zero_le _, rfl, M⟩
      case round =>
        clear M
        rename World => wz
        obtain ⟨k, hk, rfl, M⟩ := hrel
        by_cases hlk : k < 4
        · have hi23 := fun wq => idx23 (L := w2.heap.size + 1 + 1 + 1 + 1 + 1) hlk wq
          have hg5 := hres.2.1 k hlk
          by_cases hkc : k < t.cnt
          · rw [if_pos hkc] at hg5
            obtain ⟨hse, hen⟩ := HI.out k hkc
            have cL : wz.cell? ⟨w2.heap.size + 1 + 1 + 1 + 1 + 1, 5 + k, none⟩ = _ := M.2.2.2.1.cell (i := 5 + k) (by omega)
            have c1 := M.2.2.2.2.1.cell hlk
            have c2 := M.2.2.2.2.2.cell hlk
            rw [hg5] at cL
            unfold arr at c1 c2
            rw [if_pos hkc] at c1 c2
            have hi1 := fun wq => idx33 (T := w3.heap.size) hlk wq
            have hi2 := fun wq => idx33 (T := w3.heap.size + 1) hlk wq
            generalize t.s k = S at *
            generalize t.e k = E at *
            obtain ⟨d, hd⟩ : ∃ d, d = E - S := ⟨_, rfl⟩
            rw [← hd] at cL
            have hq : ((d : Int) != (E : Int) - (S : Int)) = false := by simp; omega
            have hq0 : ((d : Int) == 0) = false := by simp; omega
            have hdp : 0 < d := by omega
            have hi0 : ∀ wq, (Instr.indexAt 22 (.slice (some ⟨w.heap.size, S, none⟩) d (n - S)) (.int .i64 0)).run Yba.prog wq = .ok (.pointer (some ⟨w.heap.size, S, none⟩)) wq := fun wq => idx22z _ _ _ _ hdp _
            have hiS := fun wq => idx22 (b := w.heap.size) (cap := n) (show S < n by omega) wq
            have hSb : (S : Int) ≤ (E : Int) := by omega
            clear hg5 hd hdp
            have hnp := neqPtr
            go_wp2
            go_quiet (fail)
            go_wp2
            go_quiet (fail)
            go_wp2
            go_roundw
            case rel => exact ⟨k + 1, by omega, by go_num, M.drewN _⟩
            case measure => simp [intOf]; omega
          · rw [if_neg hkc, line_sent _ _ _ hlk] at hg5
            obtain ⟨bk, hbk⟩ := sent_form w2.heap.size k
            have cL : wz.cell? ⟨w2.heap.size + 1 + 1 + 1 + 1 + 1, 5 + k, none⟩ = _ := M.2.2.2.1.cell (i := 5 + k) (by omega)
            have cS := M.2.2.1.cell hlk
            rw [hg5, hbk] at cL
            rw [hbk] at cS
            have hi0 : ∀ wq, (Instr.indexAt 22 (.slice (some ⟨bk, 0, none⟩) 1 1) (.int .i64 0)).run Yba.prog wq = .ok (.pointer (some ⟨bk, 0, none⟩)) wq := fun wq => idx22z _ _ _ _ (by decide) _
            have hiS := fun wq => idx23s (L := w2.heap.size + 1 + 1 + 1 + 1) hlk wq
            have hnp := neqPtr
            clear hg5 hbk
            go_wp2
            go_quiet (fail)
            go_wp2
            go_roundw
            case rel => exact ⟨k + 1, by omega, by go_num, M.drewN _⟩
            case measure => simp [intOf]; omega
        · clear HI
          go_wp2
          go_loopw [17] (fun v wz => ∃ k : Nat, k ≤ n ∧ v = .int .i64 k ∧ Mem w wz w.heap.size (w2.heap.size + 1 + 1 + 1 + 1) (w2.heap.size + 1 + 1 + 1 + 1 + 1) w3.heap.size n x w2.heap.size g t) (fun v _ => n - (intOf v).toNat)
          case atStart => exact ⟨0, Nat.zero_le _, rfl, M⟩
          case round =>
            clear M
            rename World => wy
            obtain ⟨k, hk, rfl, M⟩ := hrel
            by_cases hlk : k < n
            · have hi1 := fun wq => idx22 (b := w.heap.size) (cap := n) hlk wq
              have c1 := M.2.1.cell hlk
              obtain ⟨b0, o0, ha0, hc0⟩ := h0 k hlk
              have hi0 := fun wq => idx22a (cap := c0) ha0 hlk wq
              have hc0' := cell_later M.1 hc0
              clear ha0 hc0
              generalize x k = y at *
              go_wp2
              go_quiet (fail)
              go_wp2
              go_roundw
              case rel => exact ⟨k + 1, by omega, by go_num, M.drewN _⟩
              case measure => simp [intOf]; omega
            · have L0 := M.2.2.2.1.cell (i := 0) (by decide)
              have L1 := M.2.2.2.1.cell (i := 1) (by decide)
              have L2 := M.2.2.2.1.cell (i := 2) (by decide)
              have L3 := M.2.2.2.1.cell (i := 3) (by decide)
              have L4 := M.2.2.2.1.cell (i := 4) (by decide)
              have L10 := M.2.2.2.1.cell (i := 10) (by decide)
              rw [hres.2.2 0 (by decide)] at L0
              rw [hres.2.2 1 (by decide)] at L1
              rw [hres.2.2 2 (by decide)] at L2
              rw [hres.2.2 3 (by decide)] at L3
              rw [hres.2.2 4 (by decide)] at L4
              rw [hres.2.2 10 (by decide)] at L10
              simp only [lineF] at L0 L1 L2 L3 L4 L10
              clear h0 hres
              go_wp2
              go_ret
              exact ⟨rfl, M.1⟩
end Go.Proofs.Ybulkbthi
