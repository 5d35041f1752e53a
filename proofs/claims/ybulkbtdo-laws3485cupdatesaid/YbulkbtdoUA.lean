/-
  THE TREE OF LEAST NEEDS: rows of cells, what a step may change, rows of amounts.
-/
import Derived.Test.YbulkbtdoRows
import Derived.WalkKit
import Derived.WalkSpells
import Derived.WalkLawsBesides
import Derived.RegionTactic
import Derived.BigRegion
import Derived.Deep.QuietTactic
import Derived.BigQuiet
import Derived.Deep.DeepCutAuto
import Derived.Deep.AppendLies
import Derived.Deep.Upon
import Derived.Maps.AppendAt
import Derived.Laws.Bits64
import Derived.Laws.Bits64b
namespace Go.Proofs.Ybulkbtdo.U
open Go.RowKit

/-- a proposition that the walk's simplifier does not see into -/
def Hid (p : Prop) : Prop := p
theorem Hid.out {p : Prop} (h : Hid p) : p := h

theorem add_at (b o i : Nat) : (⟨b, o, none⟩ : Addr).add i = ⟨b, o + i, none⟩ := by
  cases i <;> rfl

/-! ### rows of cells -/
def RowIs (w : World) (B : Nat) (e : TypeId) (n : Nat) (f : Nat → Value) : Prop :=
  ∃ cur, w.heap[B]? = some (.cells cur e (0, 0)) ∧ cur.size = n ∧ ∀ i, i < n → cur[i]? = some (f i)
theorem RowIs.cell {w : World} {B : Nat} {e : TypeId} {n : Nat} {f : Nat → Value} (h : RowIs w B e n f) {i : Nat} (hi : i < n) : w.cell? ⟨B, i, none⟩ = some (f i) := by
  obtain ⟨cur, hb, hs, hc⟩ := h
  simp only [World.cell?, hb]
  exact hc i hi
theorem RowIs.frozen {w : World} {B : Nat} {e : TypeId} {n : Nat} {f : Nat → Value} (h : RowIs w B e n f) (i : Nat) : w.frozen? ⟨B, i, none⟩ = false := by
  obtain ⟨cur, hb, hs, hc⟩ := h
  exact frozen_of_row w B i cur e hb
theorem RowIs.lt {w : World} {B : Nat} {e : TypeId} {n : Nat} {f : Nat → Value} (h : RowIs w B e n f) : B < w.heap.size := by
  obtain ⟨cur, hb, hs, hc⟩ := h
  exact (Array.getElem?_eq_some_iff.1 hb).1
theorem RowIs.set {w : World} {B : Nat} {e : TypeId} {n : Nat} {f : Nat → Value} (h : RowIs w B e n f) {i : Nat} (hi : i < n) (v : Value) :
    RowIs (w.setCell ⟨B, i, none⟩ v) B e n (fun j => if j = i then v else f j) := by
  obtain ⟨cur, hb, hs, hc⟩ := h
  refine ⟨cur.setIfInBounds i v, heap_setCell_same w B i cur e v hb, by simpa using hs, fun j hj => ?_⟩
  by_cases e1 : j = i
  · subst e1
    show _ = some (if j = j then v else f j)
    rw [if_pos rfl]
    simp [hs, hi]
  · show _ = some (if j = i then v else f j)
    rw [if_neg e1, Array.getElem?_setIfInBounds_ne (fun h => e1 h.symm)]
    exact hc j hj
theorem RowIs.ext {w : World} {B : Nat} {e : TypeId} {n : Nat} {f g : Nat → Value} (h : RowIs w B e n f) (hg : ∀ i, i < n → f i = g i) : RowIs w B e n g := by
  obtain ⟨cur, hb, hs, hc⟩ := h
  exact ⟨cur, hb, hs, fun i hi => by rw [← hg i hi]; exact hc i hi⟩
theorem RowIs.made (w : World) (C : Array Value) (e : TypeId) : RowIs (w.alloc (.cells C e)) w.heap.size e C.size (fun i => C[i]?.getD undef) :=
  ⟨C, (MapKept.heap_alloc w _).1, rfl, fun i hi => by simp [hi]⟩

/-! ### what a step may change: the blocks of D, and new ones -/
def Chg (D : Nat → Prop) (w w' : World) : Prop :=
  w'.os = w.os ∧ w'.tape = w.tape ∧ w'.output = w.output ∧ w.heap.size ≤ w'.heap.size ∧ ∀ k, k < w.heap.size → ¬ D k → w'.heap[k]? = w.heap[k]?
theorem Chg.refl (D : Nat → Prop) (w : World) : Chg D w w := ⟨rfl, rfl, rfl, Nat.le_refl _, fun _ _ _ => rfl⟩
theorem Chg.size {D : Nat → Prop} {w w' : World} (h : Chg D w w') : w.heap.size ≤ w'.heap.size := h.2.2.2.1
theorem Chg.block {D : Nat → Prop} {w w' : World} (h : Chg D w w') {k : Nat} (hk : k < w.heap.size) (hd : ¬ D k) : w'.heap[k]? = w.heap[k]? := h.2.2.2.2 k hk hd
theorem Chg.trans {D E : Nat → Prop} {w w1 w2 : World} (h : Chg D w w1) (k : Chg E w1 w2) (hE : ∀ b, b < w.heap.size → E b → D b) : Chg D w w2 :=
  ⟨k.1.trans h.1, k.2.1.trans h.2.1, k.2.2.1.trans h.2.2.1, Nat.le_trans h.size k.size, fun b hb hd => (k.block (Nat.lt_of_lt_of_le hb h.size) (fun he => hd (hE b hb he))).trans (h.block hb hd)⟩
theorem Chg.mono {D E : Nat → Prop} {w w' : World} (h : Chg D w w') (hE : ∀ b, b < w.heap.size → D b → E b) : Chg E w w' :=
  ⟨h.1, h.2.1, h.2.2.1, h.size, fun b hb hd => h.block hb (fun he => hd (hE b hb he))⟩
theorem Chg.below {D : Nat → Prop} {w w' : World} (h : Chg D w w') {B : Nat} (hB : B ≤ w.heap.size) (hd : ∀ k, k < B → ¬ D k) : Below B w w' :=
  ⟨h.1, h.2.1, h.2.2.1, h.size, fun k hk => h.block (Nat.lt_of_lt_of_le hk hB) (hd k hk)⟩
theorem Chg.of_below {B : Nat} {w w' : World} (h : Below B w w') : Chg (fun k => B ≤ k) w w' := ⟨h.os, h.tape, h.output, h.size, fun k _ hd => h.block k (by omega)⟩
/-- nothing old is changed -/
abbrev New (w w' : World) : Prop := Chg (fun _ => False) w w'
theorem New.of_below {w w' : World} (h : Below w.heap.size w w') : New w w' := ⟨h.os, h.tape, h.output, h.size, fun k hk _ => h.block k hk⟩
theorem New.below {w w' : World} (h : New w w') : Below w.heap.size w w' := Chg.below h (Nat.le_refl _) (fun _ _ hd => hd)
theorem Chg.new {D : Nat → Prop} {w w1 w2 : World} (h : Chg D w w1) (k : New w1 w2) : Chg D w w2 := h.trans k (fun _ _ h => h.elim)
theorem New.then {D : Nat → Prop} {w w1 w2 : World} (h : New w w1) (k : Chg D w1 w2) : Chg D w w2 := (h.mono (fun _ _ h => h.elim)).trans k (fun _ _ h => h)
theorem New.any {D : Nat → Prop} {w w1 : World} (h : New w w1) : Chg D w w1 := h.mono (fun _ _ h => h.elim)
theorem Chg.alloc {D : Nat → Prop} {w w1 : World} (h : Chg D w w1) (o : Obj) : Chg D w (w1.alloc o) := h.new (New.of_below ((Below.refl _ _).alloc (Nat.le_refl _) o))
theorem Chg.drew {D : Nat → Prop} {w w1 : World} (h : Chg D w w1) : Chg D w w1.drew := h
theorem Chg.set {D : Nat → Prop} {w w1 : World} (h : Chg D w w1) {L j : Nat} (hL : L < w.heap.size → D L) (v : Value) : Chg D w (w1.setCell ⟨L, j, none⟩ v) :=
  h.trans (E := fun k => k = L) ⟨rfl, rfl, rfl, by simp, fun k _ hk => heap_setCell_other w1 ⟨L, j, none⟩ k v (fun e => hk e)⟩ (fun b hb e => by subst e; exact hL hb)
theorem Chg.of_grown {w w' : World} {r : Option Nat} (h : w.grownBy w' r) : Chg (fun k => r = some k) w w' := ⟨h.os, h.tape, h.output, h.size, fun k hk hd => h.block k hk (fun e => hd e.symm)⟩
theorem Chg.cell {D : Nat → Prop} {w w' : World} (h : Chg D w w') {g j : Nat} {u : Value} (hc : w.cell? ⟨g, j, none⟩ = some u) (hd : ¬ D g) : w'.cell? ⟨g, j, none⟩ = some u :=
  (World.cell?_of_block (a := ⟨g, j, none⟩) (h.block (World.block_lt_of_cell? w ⟨g, j, none⟩ hc) hd)).trans hc
theorem RowIs.chg {D : Nat → Prop} {w w' : World} {B : Nat} {e : TypeId} {n : Nat} {f : Nat → Value} (h : RowIs w B e n f) (hc : Chg D w w') (hd : ¬ D B) : RowIs w' B e n f := by
  have hlt := h.lt
  obtain ⟨cur, hb, hs, hcs⟩ := h
  exact ⟨cur, (hc.block hlt hd).trans hb, hs, hcs⟩

theorem below_of_drew {w w' : World} (h : Below w.drew.heap.size w.drew w') : Below w.heap.size w w' := ⟨h.os, h.tape, h.output, h.size, h.block⟩

/-! ### amounts -/
abbrev Am := List (Nat × Nat)
def amCells : Am → List Value
  | [] => []
  | p :: L => .int .i64 (p.1 : Int) :: .int .i64 (p.2 : Int) :: amCells L
theorem amCells_length (L : Am) : (amCells L).length = L.length * 2 := by
  induction L with
  | nil => rfl
  | cons p L ih => simp [amCells, ih]; omega
theorem amCells_append (L M : Am) : amCells (L ++ M) = amCells L ++ amCells M := by
  induction L with
  | nil => rfl
  | cons p L ih => simp [amCells, ih]
theorem amCells_get {L : Am} {i : Nat} {p : Nat × Nat} (h : L[i]? = some p) : (amCells L)[i * 2]? = some (.int .i64 (p.1 : Int)) ∧ (amCells L)[i * 2 + 1]? = some (.int .i64 (p.2 : Int)) := by
  induction L generalizing i with
  | nil => simp at h
  | cons q L ih =>
    cases i with
    | zero => simp at h; subst h; exact ⟨rfl, rfl⟩
    | succ i =>
      obtain ⟨h1, h2⟩ := ih (by simpa using h)
      rw [show (i + 1) * 2 = i * 2 + 1 + 1 by omega]
      simp only [amCells, List.getElem?_cons_succ]
      exact ⟨h1, by simpa using h2⟩
theorem amCells_one (L : Am) : ∀ u ∈ amCells L, u.oneCell' = true := by
  induction L with
  | nil => intro u hu; cases hu
  | cons p L ih =>
    intro u hu
    simp only [amCells, List.mem_cons] at hu
    rcases hu with rfl | rfl | hu
    · rfl
    · rfl
    · exact ih u hu
/-- a slice reads as amounts -/
def AmV (w : World) (v : Value) (L : Am) : Prop :=
  ∃ a c, v = .slice a L.length c ∧ L.length ≤ c ∧ ∀ i p, L[i]? = some p → ∃ g, a = some ⟨g, 0, none⟩ ∧ w.cell? ⟨g, i * 2, none⟩ = some (.int .i64 (p.1 : Int)) ∧ w.cell? ⟨g, i * 2 + 1, none⟩ = some (.int .i64 (p.2 : Int))
theorem AmV.chg {D : Nat → Prop} {w w' : World} {v : Value} {L : Am} (h : AmV w v L) (hc : Chg D w w') (hd : ∀ k, v.ownBlock = some k → ¬ D k) : AmV w' v L := by
  obtain ⟨a, c, rfl, hl, hx⟩ := h
  refine ⟨a, c, rfl, hl, fun i p hp => ?_⟩
  obtain ⟨g, rfl, h1, h2⟩ := hx i p hp
  exact ⟨g, rfl, hc.cell h1 (hd g rfl), hc.cell h2 (hd g rfl)⟩
theorem AmV.new {w w' : World} {v : Value} {L : Am} (h : AmV w v L) (hc : New w w') : AmV w' v L := h.chg hc (fun _ _ h => h)
theorem AmV.nil (w : World) : AmV w (.slice none 0 0) [] := ⟨none, 0, rfl, Nat.le_refl _, fun i p hp => by simp at hp⟩
/-- the call's own row of amounts -/
def OwnAm (w : World) (B : Nat) (v : Value) (L : Am) : Prop := w.ownsRow B 73 2 v L.length (amCells L)
theorem OwnAm.amv {w : World} {B : Nat} {v : Value} {L : Am} (h : OwnAm w B v L) : AmV w v L := by
  have h' := h
  rcases h.2 with ⟨rfl, h0⟩ | ⟨g, cap, cur, rfl, _, _, hn, _⟩
  · have : L = [] := List.eq_nil_of_length_eq_zero h0
    subst this
    exact AmV.nil w
  · refine ⟨_, cap, rfl, hn, fun i p hp => ⟨g, rfl, ?_, ?_⟩⟩
    · have := World.ownsRow.cells h' rfl (i * 2) _ (amCells_get hp).1
      rwa [add_at, Nat.zero_add] at this
    · have := World.ownsRow.cells h' rfl (i * 2 + 1) _ (amCells_get hp).2
      rwa [add_at, Nat.zero_add] at this
theorem OwnAm.chg {D : Nat → Prop} {w w' : World} {B : Nat} {v : Value} {L : Am} (h : OwnAm w B v L) (hc : Chg D w w') (hd : ∀ k, v.ownBlock = some k → ¬ D k) : OwnAm w' B v L := by
  refine ⟨h.1, ?_⟩
  rcases h.2 with h0 | ⟨g, cap, cur, rfl, hb, hg, r⟩
  · exact .inl h0
  · exact .inr ⟨g, cap, cur, rfl, hb, (hc.block (Array.getElem?_eq_some_iff.1 hg).1 (hd g rfl)).trans hg, r⟩
theorem OwnAm.ge {w : World} {B : Nat} {v : Value} {L : Am} (h : OwnAm w B v L) : ∀ k, v.ownBlock = some k → B ≤ k ∧ k < w.heap.size := World.ownsRow.lt h
theorem OwnAm.nil (w : World) (B : Nat) : OwnAm w B (.slice none 0 0) [] := World.ownsRow_nil _ _ _ _

theorem idx49 {a : Option Addr} {g len cap k : Nat} (ha : a = some ⟨g, 0, none⟩) (hk : k < len) (w : World) :
    (Instr.indexAt 49 (.slice a len cap) (.int .i64 (k : Int))).run Yba.prog w = .ok (.pointer (some ⟨g, k * 2, none⟩)) w := by
  subst ha
  have hs : (sizeOf 73).run Yba.prog w = .ok 2 w := by kernel_rfl
  rw [run_indexAt_slice _ _ _ _ _ _ _ Yba.underlying49]
  rw [if_pos (by omega)]
  show ((sizeOf 73).run Yba.prog w).andThen _ = _
  rw [hs]
  simp only [Result.andThen, Int.toNat_natCast]
  rw [add_at, Nat.zero_add]
end Go.Proofs.Ybulkbtdo.U
