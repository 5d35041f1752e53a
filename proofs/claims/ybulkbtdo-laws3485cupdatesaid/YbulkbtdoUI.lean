/-
  amounts appended to a row of the tree's own; the tree with another room, with another least.
-/
import Derived.Test.YbulkbtdoUH
namespace Go.Proofs.Ybulkbtdo.U
open Go.RowKit
set_option maxRecDepth 100000
theorem info73' : ∃ i, Yba.prog.info? 73 = some i ∧ i.size = 2 ∧ i.bytes = 16 ∧ ∃ z, i.zero = some z ∧ z.cells.size = 2 := by
  have h : (Yba.prog.info? 73).map (fun i => (i.size, i.bytes, i.zero.map fun z => z.cells.size)) = some (2, 16, some 2) := by kernel_rfl
  cases e : Yba.prog.info? 73 with
  | none => rw [e] at h; cases h
  | some i =>
    rw [e] at h
    simp at h
    obtain ⟨h1, h2, z, h3, h4⟩ := h
    exact ⟨i, rfl, h1, h2, z, h3, h4⟩
theorem OwnAm.form {w : World} {B : Nat} {v : Value} {L : Am} (h : OwnAm w B v L) : ∃ a c, v = .slice a L.length c ∧ L.length ≤ c := by
  rcases h.2 with ⟨rfl, h0⟩ | ⟨g, cap, cur, rfl, _, _, hn, _⟩
  · exact ⟨none, 0, by rw [h0], by omega⟩
  · exact ⟨_, cap, rfl, hn⟩
/-- v[:0] -/
def head0 : Value → Value
  | .slice a _ c => .slice a 0 c
  | v => v
theorem OwnAm.head {w : World} {B : Nat} {v : Value} {L : Am} (h : OwnAm w B v L) : OwnAm w B (head0 v) [] ∧ (head0 v).ownBlock = v.ownBlock := by
  rcases h.2 with ⟨rfl, h0⟩ | ⟨g, cap, cur, rfl, hb, hg, hn, hc, hs, ht⟩
  · exact ⟨OwnAm.nil _ _, rfl⟩
  · exact ⟨⟨rfl, .inr ⟨g, cap, cur, rfl, hb, hg, Nat.zero_le _, hc, hs, by simp [amCells]⟩⟩, rfl⟩
theorem appAm {w : World} {B : Nat} {v x : Value} {K M : Am} (h : OwnAm w B v K) (hB : B ≤ w.heap.size) (hx : AmV w x M) (hl : K.length + M.length ≤ 1000) (ty : TypeId) :
    ∃ v' w', (Builtin.append_ #[49, 49] ty #[v, x]).run Yba.prog w = .ok v' w' ∧ OwnAm w' B v' (K ++ M) ∧ Chg (fun k => v.ownBlock = some k) w w' ∧ (v'.ownBlock = v.ownBlock ∨ v'.ownBlock = some w.heap.size) := by
  obtain ⟨inf, hi, hs, hby, z, hz, hzs⟩ := info73'
  obtain ⟨a, c, rfl, hc, hcell⟩ := hx
  by_cases h0 : M.length = 0
  · have : M = [] := List.eq_nil_of_length_eq_zero h0
    subst this
    obtain ⟨va, vc, rfl, hvc⟩ := h.form
    refine ⟨_, w, run_append_nothing (P := Yba.prog) w 49 49 ty 73 inf Yba.underlying49 hi va K.length vc hvc _ ?_, by simpa using h, Chg.refl _ _, .inl rfl⟩
    cases a with
    | none => exact Src.ofNil w Yba.underlying49 c
    | some ad => exact Src.ofSlice w Yba.underlying49 ad 0 c [] (by simp) (fun j u hj => by simp at hj) (fun u hu => by cases hu)
  · obtain ⟨p, hp⟩ := get_lt (L := M) (i := 0) (by omega)
    obtain ⟨g, rfl, _, _⟩ := hcell 0 p hp
    obtain ⟨v', w', h1, h2, h3, _, h5⟩ := run_append_own_at (P := Yba.prog) w B 49 ty 73 inf z 2 16 Yba.underlying49 hi hz hs hby hzs (by decide) v K.length _ h ⟨g, 0, none⟩ M.length c (amCells M) (amCells_length M)
      (fun j u hj => by
        rw [add_at, Nat.zero_add]
        have hjl : j < M.length * 2 := by rw [← amCells_length]; exact (List.getElem?_eq_some_iff.1 hj).1
        obtain ⟨q, hq⟩ := get_lt (L := M) (i := j / 2) (by omega)
        obtain ⟨g', hg', hc1, hc2⟩ := hcell _ q hq
        cases hg'
        obtain ⟨e1, e2⟩ := amCells_get hq
        by_cases hpar : j % 2 = 0
        · have e : j = j / 2 * 2 := by omega
          rw [e] at hj ⊢
          rw [e1] at hj
          cases hj
          exact hc1
        · have e : j = j / 2 * 2 + 1 := by omega
          rw [e] at hj ⊢
          rw [e2] at hj
          cases hj
          exact hc2) (amCells_one M) (by unfold maxLen; omega) (by omega) hB
    refine ⟨v', w', h1, ?_, (Chg.of_grown h3).mono (fun b _ e => e), h5⟩
    unfold OwnAm
    rw [amCells_append, List.length_append]
    exact h2
theorem own_apart {w : World} {G : Geo} {N : Nat → Am} {nv : Nat → Value} {al : Bool} {X : Cur} (h : Tree w G N nv al X) {b : Nat} (hb : G.ow b) (hk : ∀ k, k < G.size - 1 → (X.lv k).ownBlock ≠ some b) : ∀ (mem : Nat → Bool) (r : Nat), 1 ≤ r → (rangeVal G nv mem X r).ownBlock ≠ some b := by
  intro mem r hr e
  unfold rangeVal at e
  by_cases h1 : r < G.size
  · rw [if_pos h1] at e
    exact hk _ (by omega) e
  · rw [if_neg h1] at e
    by_cases h2 : held G mem (r - G.size) = true
    · rw [if_pos h2] at e
      have hp : r - G.size < G.n := by unfold held at h2; simp at h2; exact h2.1
      exact h.nb _ hp b e (.inr (.inr (.inr (.inr hb))))
    · rw [if_neg h2] at e
      cases e
/-- the tree with another room -/
def Cur.setRoom (X : Cur) (v : Value) (R : Am) : Cur := { X with vr := v, R := R }
theorem Tree.setRoom {w w' : World} {G : Geo} {N : Nat → Am} {nv : Nat → Value} {al : Bool} {X : Cur} (h : Tree w G N nv al X) {v : Value} {R : Am} (hc : Chg (fun b => X.vr.ownBlock = some b) w w') (ho : OwnG w' G v R) (hb : v.ownBlock = X.vr.ownBlock ∨ ∃ b, v.ownBlock = some b ∧ w.heap.size ≤ b) :
    Tree (w'.setCell ⟨G.T, 10, none⟩ v) G N nv al (X.setRoom v R) := by
  obtain ⟨f, hf, e0, e1, e3, e4, e5, e6, e10, e11⟩ := h.tr
  have ht := h.ok.t
  have hd := h.ok.d
  have hlow : ∀ b, ¬ G.ow b → ¬ X.vr.ownBlock = some b := fun b hb e => hb (h.rr.ge b e).1
  have hf' := hf.chg hc (hlow _ ht.1)
  have hs : Chg (fun b => b = G.T) w' (w'.setCell ⟨G.T, 10, none⟩ v) := Chg.set (D := fun b => b = G.T) (Chg.refl _ w') (fun _ => rfl) _
  have c2 : Chg (fun b => X.vr.ownBlock = some b ∨ b = G.T) w (w'.setCell ⟨G.T, 10, none⟩ v) := (hc.mono (fun b _ e => .inl e)).trans hs (fun b _ e => .inr e)
  have nT : ∀ {b : Nat}, ¬ G.ow b → b ≠ G.T → ¬ (X.vr.ownBlock = some b ∨ b = G.T) := fun {b} hb hne e => by
    rcases e with e | e
    · exact hlow b hb e
    · exact hne e
  have sT : ∀ {v : Value} {L : Am}, OwnG w' G v L → ∀ b, v.ownBlock = some b → ¬ b = G.T := fun ho b hb e => ht.1 (by rw [← e]; exact (ho.ge b hb).1)
  have vne : ∀ k, k < G.size - 1 → ∀ b, (X.lv k).ownBlock = some b → v.ownBlock ≠ some b := fun k hk b hkb e => by
    rcases hb with hb | ⟨b', hb, hle⟩
    · exact (h.ss k hk b hkb).1 (by rw [← hb]; exact e)
    · rw [hb] at e
      cases e
      have := ((h.la k hk).ge _ hkb).2
      omega
  refine ⟨h.ok, fun b hb => h.sz b (Nat.le_trans c2.size hb), ⟨fun j => if j = 10 then v else f j, hf'.set (by decide) v, e0, e1, e3, e4, e5, e6, rfl, e11⟩, h.nr.chg c2 (nT ht.2.1 (by omega)), fun i hi => (h.na i hi).chg c2 (fun b hb e => ?_), h.nb, h.no, h.lr.chg c2 (nT ht.2.2.1 (by omega)), fun j hj => ?_, h.lok, ho.chg hs (sT ho), fun k hk b hkb => ⟨vne k hk b hkb, (h.ss k hk b hkb).2⟩, h.or.chg c2 (nT ht.2.2.2.2 (by omega)), h.wr.chg c2 (nT ht.2.2.2.1 (by omega)), h.o9, h.w8, fun k hk => by
    obtain ⟨a, n, c, h1⟩ := h.tx k hk
    rw [hf.cell (i := k) (by omega)] at h1
    have h3 := (hf'.set (i := 10) (by decide) v).cell (i := k) (by omega)
    rw [if_neg (by omega), Option.some.inj h1] at h3
    exact ⟨a, n, c, h3⟩⟩
  · rcases e with e | e
    · exact h.nb i hi b hb (.inr (.inr (.inr (.inr ((h.rr.ge b e).1)))))
    · exact h.nb i hi b hb (.inl e)
  · refine (h.la j hj).chg c2 (fun b hb e => ?_)
    rcases e with e | e
    · exact (h.ss j hj b hb).1 e
    · exact ht.1 (by rw [← e]; exact ((h.la j hj).ge b hb).1)
/-- the tree with another least at k -/
def Cur.setLe (X : Cur) (k : Nat) (v : Value) (L : Am) : Cur := { X with lv := fun j => if j = k then v else X.lv j, Le := fun j => if j = k then L else X.Le j }
theorem Tree.setLe {w w' : World} {G : Geo} {N : Nat → Am} {nv : Nat → Value} {al : Bool} {X : Cur} (h : Tree w G N nv al X) {k : Nat} {v : Value} {L : Am} (hk : k < G.size - 1) (hc : Chg (fun b => (X.lv k).ownBlock = some b) w w') (ho : OwnG w' G v L) (hb : v.ownBlock = (X.lv k).ownBlock ∨ ∃ b, v.ownBlock = some b ∧ w.heap.size ≤ b) (ok : AmOk L) :
    Tree (w'.setCell ⟨G.GL, k, none⟩ v) G N nv al (X.setLe k v L) := by
  obtain ⟨f, hf, er⟩ := h.tr
  have ht := h.ok.t
  have hd := h.ok.d
  have hlow : ∀ b, ¬ G.ow b → ¬ (X.lv k).ownBlock = some b := fun b hb e => hb ((h.la k hk).ge b e).1
  have hs : Chg (fun b => b = G.GL) w' (w'.setCell ⟨G.GL, k, none⟩ v) := Chg.set (D := fun b => b = G.GL) (Chg.refl _ w') (fun _ => rfl) _
  have c2 : Chg (fun b => (X.lv k).ownBlock = some b ∨ b = G.GL) w (w'.setCell ⟨G.GL, k, none⟩ v) := (hc.mono (fun b _ e => .inl e)).trans hs (fun b _ e => .inr e)
  have nT : ∀ {b : Nat}, ¬ G.ow b → b ≠ G.GL → ¬ ((X.lv k).ownBlock = some b ∨ b = G.GL) := fun {b} hb hne e => by
    rcases e with e | e
    · exact hlow b hb e
    · exact hne e
  have sT : ∀ {v : Value} {L : Am}, OwnG w' G v L → ∀ b, v.ownBlock = some b → ¬ b = G.GL := fun ho b hb e => ht.2.2.1 (by rw [← e]; exact (ho.ge b hb).1)
  have vold : ∀ b, v.ownBlock = some b → b < w.heap.size → (X.lv k).ownBlock = some b := fun b e hlt => by
    rcases hb with hb | ⟨b', hb, hle⟩
    · rw [← hb]; exact e
    · rw [hb] at e; cases e; omega
  have hlr := h.lr.chg hc (hlow _ ht.2.2.1)
  refine ⟨h.ok, fun b hb => h.sz b (Nat.le_trans c2.size hb), ⟨f, hf.chg c2 (nT ht.1 (by omega)), er⟩, h.nr.chg c2 (nT ht.2.1 (by omega)), fun i hi => (h.na i hi).chg c2 (fun b hb e => ?_), h.nb, h.no, hlr.set hk v, fun j hj => ?_, fun j hj => ?_, ?_, fun j hj b hjb => ?_, h.or.chg c2 (nT ht.2.2.2.2 (by omega)), h.wr.chg c2 (nT ht.2.2.2.1 (by omega)), h.o9, h.w8, fun k hk => by
    obtain ⟨a, n, c, h1⟩ := h.tx k hk
    exact ⟨a, n, c, c2.cell h1 (nT ht.1 (by omega))⟩⟩
  · rcases e with e | e
    · exact h.nb i hi b hb (.inr (.inr (.inr (.inr (((h.la k hk).ge b e).1)))))
    · exact h.nb i hi b hb (.inr (.inl e))
  · show OwnG _ G (if j = k then v else X.lv j) (if j = k then L else X.Le j)
    by_cases e : j = k
    · rw [if_pos e, if_pos e]; exact ho.chg hs (sT ho)
    · rw [if_neg e, if_neg e]
      refine (h.la j hj).chg c2 (fun b hb e' => ?_)
      rcases e' with e' | e'
      · exact (h.ss j hj b hb).2 k hk (fun h => e h.symm) e'
      · exact ht.2.2.1 (by rw [← e']; exact ((h.la j hj).ge b hb).1)
  · show AmOk (if j = k then L else X.Le j)
    by_cases e : j = k
    · rw [if_pos e]; exact ok
    · rw [if_neg e]; exact h.lok j hj
  · refine h.rr.chg c2 (fun b hb e => ?_)
    rcases e with e | e
    · exact (h.ss k hk b e).1 hb
    · exact ht.2.2.1 (by rw [← e]; exact (h.rr.ge b hb).1)
  · have hjb' : (if j = k then v else X.lv j).ownBlock = some b := hjb
    by_cases e : j = k
    · subst e
      rw [if_pos rfl] at hjb'
      refine ⟨fun e2 => ?_, fun i hi hne e2 => ?_⟩
      · have hlt := (h.rr.ge b e2).2
        exact (h.ss j hk b (vold b hjb' hlt)).1 e2
      · have e2' : (if i = j then v else X.lv i).ownBlock = some b := e2
        rw [if_neg hne] at e2'
        have hlt := ((h.la i hi).ge b e2').2
        exact (h.ss j hk b (vold b hjb' hlt)).2 i hi hne e2'
    · rw [if_neg e] at hjb'
      refine ⟨(h.ss j hj b hjb').1, fun i hi hne e2 => ?_⟩
      have e2' : (if i = k then v else X.lv i).ownBlock = some b := e2
      by_cases e3 : i = k
      · subst e3
        rw [if_pos rfl] at e2'
        have hlt := ((h.la j hj).ge b hjb').2
        exact (h.ss j hj b hjb').2 i hk hne (vold b e2' hlt)
      · rw [if_neg e3] at e2'
        exact (h.ss j hj b hjb').2 i hi hne e2'
end Go.Proofs.Ybulkbtdo.U
