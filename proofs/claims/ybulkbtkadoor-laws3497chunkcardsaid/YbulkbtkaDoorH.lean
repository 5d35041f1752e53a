/-
  WHAT THE LAW'S END WANTS: the bytes that came in, the lines and the changes as appendHunk reads them, bytes.Equal.
-/
import Derived.Test.YbulkbtkaDoorG
namespace Go.Proofs.YbulkbtkaDoor
open Go.RowKit
def bytesN (x : Nat → Nat) (len : Nat) : Bytes := (List.range len).map fun k => UInt8.ofNat (x k)
theorem bytesN_length (x : Nat → Nat) (len : Nat) : (bytesN x len).length = len := by simp [bytesN]
theorem out_app {w : World} {a : Option Addr} {len : Nat} {x : Nat → Nat} (B : Nat) (c : Nat) (h : ByteAt w a len x) (hB : B ≤ w.heap.size) (hl : len ≤ 1024) :
    ∃ v' w', (Builtin.append_ #[22, 22] 22 #[.slice none 0 0, .slice a len c]).run Ybad.prog w = .ok v' w' ∧ Own w' B v' (bytesN x len) ∧ Step w (.slice none 0 0) w' v' := by
  by_cases h0 : len = 0
  · subst h0
    obtain ⟨i, hi, hz, hs, hby⟩ := info5
    refine ⟨_, w, run_append_nothing (P := Ybad.prog) w 22 22 22 5 i Ybad.underlying22 hi none 0 0 (Nat.le_refl _) _ ?_, World.ownsRow_nil _ _ _ _, Step.refl _ _⟩
    cases a with
    | none => exact Src.ofNil w Ybad.underlying22 c
    | some ad => exact Src.ofSlice w Ybad.underlying22 ad 0 c [] (by simp) (fun j u hj => by simp at hj) (fun u hu => by cases hu)
  · obtain ⟨b, off, ha, _, _⟩ := h 0 (by omega)
    have hr : Reads w (.slice a len c) (bytesN x len) := by
      refine ⟨c, .inr ⟨b, off, by rw [ha, bytesN_length], fun j u hj => ?_⟩⟩
      have hjl : j < len := by
        have := (List.getElem?_eq_some_iff.1 hj).1
        rw [Lib.byteCells_length, bytesN_length] at this
        exact this
      obtain ⟨b', off', ha', hc, hx⟩ := h j hjl
      rw [ha] at ha'
      cases ha'
      rw [hc, ← hj]
      simp [Lib.byteCells, bytesN, hjl]
      omega
    have := app22 22 (w := w) (B := B) (v := .slice none 0 0) (L := []) (World.ownsRow_nil _ _ _ _) hB hr (by rw [bytesN_length]; simp; omega)
    simpa using this
theorem own_conv {w : World} {B : Nat} {v : Value} {L : Bytes} (h : Own w B v L) : (convert 22 9 v).run Ybad.prog w = .ok (.string (strOfNums (L.map fun b => (b.toNat : Int)))) w := by
  rcases h.2 with ⟨rfl, h0⟩ | ⟨g, cap, cur, rfl, r⟩
  · have : L = [] := List.eq_nil_of_length_eq_zero h0
    subst this
    exact run_convert_bytes_nil w 22 5 Ybad.underlying22 Ybad.underlying5 0 0 9 Ybad.underlying9
  · refine run_convert_bytes_arg (P := Ybad.prog) w 22 5 Ybad.underlying22 Ybad.underlying5 g 0 L.length cap _ (by simp) (fun i hi => ?_) 9 Ybad.underlying9
    rw [← add_at]
    refine World.ownsRow.cells h rfl i _ ?_
    simp [Lib.byteCells, hi]
theorem chCells_length (ch : Nat → Ch) (n : Nat) : (chCells ch n).length = n * 4 := by
  induction n with
  | zero => rfl
  | succ k ih => simp [chCells, ih]; omega
theorem chCells_get (ch : Nat → Ch) (n i : Nat) (h : i < n) : (chCells ch n)[i * 4]? = some (.int .i64 ((ch i).x0 : Int)) ∧ (chCells ch n)[i * 4 + 1]? = some (.int .i64 ((ch i).x1 : Int)) ∧ (chCells ch n)[i * 4 + 2]? = some (.int .i64 ((ch i).y0 : Int)) ∧ (chCells ch n)[i * 4 + 3]? = some (.int .i64 ((ch i).y1 : Int)) := by
  induction n with
  | zero => omega
  | succ k ih =>
    have hl := chCells_length ch k
    by_cases e : i = k
    · subst e
      simp only [chCells]
      refine ⟨?_, ?_, ?_, ?_⟩
      · rw [List.getElem?_append_right (by omega), hl, Nat.sub_self]; rfl
      · rw [List.getElem?_append_right (by omega), hl, show i * 4 + 1 - i * 4 = 1 by omega]; rfl
      · rw [List.getElem?_append_right (by omega), hl, show i * 4 + 2 - i * 4 = 2 by omega]; rfl
      · rw [List.getElem?_append_right (by omega), hl, show i * 4 + 3 - i * 4 = 3 by omega]; rfl
    · obtain ⟨h1, h2, h3, h4⟩ := ih (by omega)
      simp only [chCells]
      refine ⟨?_, ?_, ?_, ?_⟩
      · rw [List.getElem?_append_left (by omega)]; exact h1
      · rw [List.getElem?_append_left (by omega)]; exact h2
      · rw [List.getElem?_append_left (by omega)]; exact h3
      · rw [List.getElem?_append_left (by omega)]; exact h4
theorem lines_of {w F : World} {B : Nat} {t : Option Nat} {va vb vc vy v : Value} {ps : List Value} {LA : List Bytes} {B0 : Nat} (ho : w.ownsRow B0 22 1 v ps.length ps) (hl : LinesV w t va vb vc vy ps LA) (hb : Below w.heap.size w F) (hB : w.heap.size ≤ B) :
    ∃ aa ca, v = .slice aa LA.length ca ∧ LA.length ≤ ca ∧ Lines F B aa LA ∧ ∀ i, (LA.getD i []).length ≤ 3 := by
  have h3 : ∀ i, (LA.getD i []).length ≤ 3 := fun i => by
    by_cases hi : i < ps.length
    · obtain ⟨g, c, _, _, _, _, _, hm⟩ := hl.2 i _ (List.getElem?_eq_getElem hi)
      exact hm
    · rw [List.getD_eq_getElem?_getD, List.getElem?_eq_none (by rw [← hl.1]; omega)]
      simp
  have hlo := ho
  rcases ho.2 with ⟨rfl, h0⟩ | ⟨g, cap, cur, rfl, hg, hgg, hn, _⟩
  · exact ⟨none, 0, by rw [← hl.1, h0], by rw [← hl.1, h0]; exact Nat.le_refl _, fun i hi => by rw [← hl.1, h0] at hi; omega, h3⟩
  · refine ⟨_, cap, by rw [← hl.1], by rw [← hl.1]; exact hn, fun i hi => ?_, h3⟩
    have hi' : i < ps.length := by rw [hl.1]; exact hi
    have hps := List.getElem?_eq_getElem hi'
    obtain ⟨g', c', e, hg', hline, _⟩ := hl.2 i _ hps
    have hgl : g < w.heap.size := (Array.getElem?_eq_some_iff.1 hgg).1
    have hcell := World.ownsRow.cells hlo rfl i _ hps
    rw [add_at, Nat.zero_add] at hcell
    refine ⟨g, g', c', rfl, by omega, ?_, by omega, hline.below hb hg'⟩
    rw [cell_later hb hcell, e]
theorem St.ends {w0 w F : World} {ch : Nat → Ch} {t : Option Nat} {va vb vc vy : Value} {n : Nat} {LA LB : List Bytes} {Y : Bytes} (h : St w0 w ch t va vb vc vy n LA LB Y) (hb : Below w.heap.size w F) {B : Nat} (hB : w.heap.size ≤ B) (hn : 0 < n) :
    ∃ aa ca ab cb gc cc, va = .slice aa LA.length ca ∧ vb = .slice ab LB.length cb ∧ vc = .slice (some ⟨gc, 0, none⟩) n cc ∧ LA.length ≤ ca ∧ LB.length ≤ cb ∧ gc < B ∧ Lines F B aa LA ∧ Lines F B ab LB ∧ Chs F gc n ch ∧ (∀ i, (LA.getD i []).length ≤ 3) ∧ (∀ i, (LB.getD i []).length ≤ 3) := by
  obtain ⟨pa, pb, hr, hw, ht⟩ := h
  obtain ⟨aa, ca, ea, hca, hla, h3a⟩ := lines_of hr.oa hr.la hb hB
  obtain ⟨ab, cb, eb, hcb, hlb, h3b⟩ := lines_of hr.ob hr.lb hb hB
  obtain ⟨gc, cc, ec, _, hgc⟩ := hr.oc.form hn
  subst ec
  refine ⟨aa, ca, ab, cb, gc, cc, ea, eb, rfl, hca, hcb, by omega, hla, hlb, fun i hi => ?_, h3a, h3b⟩
  obtain ⟨h1, h2, h3, h4⟩ := chCells_get ch n i hi
  have cell : ∀ j u, (chCells ch n)[j]? = some u → F.cell? ⟨gc, j, none⟩ = some u := fun j u hj => by
    have := World.ownsRow.cells hr.oc rfl j u hj
    rw [add_at, Nat.zero_add] at this
    exact cell_later hb this
  exact ⟨cell _ _ h1, cell _ _ h2, cell _ _ h3, cell _ _ h4⟩
theorem Step.nil_below {w w' : World} {v' : Value} (h : Step w (.slice none 0 0) w' v') : Below w.heap.size w w' := h.below (Nat.le_refl _) (fun k hk => by cases hk)
end Go.Proofs.YbulkbtkaDoor
