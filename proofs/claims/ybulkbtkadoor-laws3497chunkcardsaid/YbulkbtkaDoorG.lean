/-
  THE LAW's STATE: the four slices with what they hold, and the plain sums.
-/
import Derived.Test.YbulkbtkaDoorF
namespace Go.Proofs.YbulkbtkaDoor
open Go.RowKit
theorem Step.later {w w' : World} (v : Value) (hb : Below w.heap.size w w') : Step w v w' v := ⟨grown_of_below hb, .inl rfl⟩
theorem app26 (ty : TypeId) {w : World} {B : Nat} {v : Value} {pa : List Value} (h : w.ownsRow B 22 1 v pa.length pa) (hB : B ≤ w.heap.size) (x : Value) (h1 : x.oneCell' = true) (hl : pa.length ≤ 100000) :
    ∃ v' w', (Builtin.append_ #[26, 26] ty #[v, .slice (some ⟨w.heap.size, 0, none⟩) 1 1]).run Ybad.prog (w.alloc (.cells #[x] 22)) = .ok v' w' ∧ w'.ownsRow B 22 1 v' (pa ++ [x]).length (pa ++ [x]) ∧ Step w v w' v' := by
  obtain ⟨i, hi, hz, hs, hby⟩ := info22
  have hm : pa.length + 1 ≤ maxLen := by unfold maxLen; omega
  obtain ⟨v', w', hr, ho, hg, _, hat⟩ := run_append_own_at (P := Ybad.prog) (w.alloc (.cells #[x] 22)) B 26 ty 22 i (.slice none 0 0) 1 24 Ybad.underlying26 hi hz hs hby rfl (by decide) v pa.length _ (h.alloc _) ⟨w.heap.size, 0, none⟩ 1 1 [x]
    (by simp) (fun j u hj => by
      rw [add_at, Nat.zero_add, cell_of_row _ _ _ _ 22 _ (heap_alloc_new w _)]
      simpa using hj) (by simpa using h1) hm (by omega) (by simp; omega)
  refine ⟨v', w', hr, by rw [List.length_append]; exact ho, ((Step.refl w v).alloc _).trans ⟨hg, ?_⟩⟩
  rcases hat with e | e
  · exact .inl e
  · exact .inr ⟨_, e, Nat.le_refl _⟩
theorem app27 (ty : TypeId) {w : World} {B : Nat} {v : Value} {n : Nat} {pc : List Value} (h : w.ownsRow B 31 4 v n pc) (hB : B ≤ w.heap.size) (a b c d : Int) (hl : n ≤ 100000) :
    ∃ v' w', (Builtin.append_ #[27, 27] ty #[v, .slice (some ⟨w.heap.size, 0, none⟩) 1 1]).run Ybad.prog (w.alloc (.cells #[.int .i64 a, .int .i64 b, .int .i64 c, .int .i64 d] 31)) = .ok v' w' ∧ w'.ownsRow B 31 4 v' (n + 1) (pc ++ [.int .i64 a, .int .i64 b, .int .i64 c, .int .i64 d]) ∧ Step w v w' v' := by
  obtain ⟨i, hi, hz, hs, hby⟩ := info31
  have hm : n + 1 ≤ maxLen := by unfold maxLen; omega
  obtain ⟨v', w', hr, ho, hg, _, hat⟩ := run_append_own_at (P := Ybad.prog) (w.alloc (.cells #[.int .i64 a, .int .i64 b, .int .i64 c, .int .i64 d] 31)) B 27 ty 31 i _ 4 32 Ybad.underlying27 hi hz hs hby rfl (by decide) v n _ (h.alloc _) ⟨w.heap.size, 0, none⟩ 1 1 [.int .i64 a, .int .i64 b, .int .i64 c, .int .i64 d]
    (by simp) (fun j u hj => by
      rw [add_at, Nat.zero_add, cell_of_row _ _ _ _ 31 _ (heap_alloc_new w _)]
      simpa using hj) (by simp [Value.oneCell']) hm (by omega) (by simp; omega)
  refine ⟨v', w', hr, ho, ((Step.refl w v).alloc _).trans ⟨hg, ?_⟩⟩
  rcases hat with e | e
  · exact .inl e
  · exact .inr ⟨_, e, Nat.le_refl _⟩
def chCells (ch : Nat → Ch) : Nat → List Value
  | 0 => []
  | k + 1 => chCells ch k ++ [.int .i64 ((ch k).x0 : Int), .int .i64 ((ch k).x1 : Int), .int .i64 ((ch k).y0 : Int), .int .i64 ((ch k).y1 : Int)]
def St (w0 wr : World) (ch : Nat → Ch) (t : Option Nat) (va vb vc vy : Value) (n : Nat) (LA LB : List Bytes) (Y : Bytes) : Prop :=
  ∃ pa pb, Reg wr w0.heap.size t va vb vc vy pa pb (chCells ch n) n LA LB Y ∧ Below w0.heap.size w0 wr ∧ ∀ k, t = some k → k < wr.heap.size
theorem St.later {w0 wr w' : World} {ch : Nat → Ch} {t : Option Nat} {va vb vc vy : Value} {n : Nat} {LA LB : List Bytes} {Y : Bytes} (h : St w0 wr ch t va vb vc vy n LA LB Y) (hb : Below wr.heap.size wr w') : St w0 w' ch t va vb vc vy n LA LB Y := by
  obtain ⟨pa, pb, hr, hw, ht⟩ := h
  exact ⟨pa, pb, hr.later hb, hw.trans (hb.mono hw.size), fun k hk => Nat.lt_of_lt_of_le (ht k hk) hb.size⟩
theorem LineV.one {w : World} {t : Option Nat} {va vb vc vy x : Value} {M : Bytes} (h : LineV w t va vb vc vy x M) : x.oneCell' = true := by
  obtain ⟨g, c, rfl, _⟩ := h
  rfl
/-- a block of the call's own that nothing of the four touches -/
def Held (w : World) (va vb vc vy : Value) (g : Nat) (o : Obj) : Prop := w.heap[g]? = some o ∧ FreeOf g va vb vc vy
theorem Held.lt {w : World} {va vb vc vy : Value} {g : Nat} {o : Obj} (h : Held w va vb vc vy g o) : g < w.heap.size := (Array.getElem?_eq_some_iff.1 h.1).1
theorem Held.later {w w' : World} {va vb vc vy : Value} {g : Nat} {o : Obj} (h : Held w va vb vc vy g o) (hb : Below w.heap.size w w') : Held w' va vb vc vy g o := ⟨(hb.block g h.lt).trans h.1, h.2⟩
theorem Held.cell {w : World} {va vb vc vy : Value} {g : Nat} {cur : Array Value} {e : TypeId} (h : Held w va vb vc vy g (.cells cur e)) {i : Nat} {u : Value} (hu : cur[i]? = some u) : w.cell? ⟨g, i, none⟩ = some u := by
  rw [cell_of_row w g i cur e _ h.1]; exact hu
theorem St.fresh {w0 wr : World} {ch : Nat → Ch} {t : Option Nat} {va vb vc vy : Value} {n : Nat} {LA LB : List Bytes} {Y : Bytes} (h : St w0 wr ch t va vb vc vy n LA LB Y) (o : Obj) : Held (wr.alloc o) va vb vc vy wr.heap.size o := by
  obtain ⟨pa, pb, hr, hw, ht⟩ := h
  have ne : ∀ {e : TypeId} {size : Nat} {v : Value} {n : Nat} {xs : List Value}, wr.ownsRow w0.heap.size e size v n xs → some wr.heap.size ≠ v.ownBlock := fun {e size v n xs} hv e => by
    have := own_lt hv _ e.symm
    omega
  exact ⟨heap_alloc_new wr o, ne hr.oa, ne hr.ob, ne hr.oc, ne hr.oy⟩
theorem Held.stepA {w w' : World} {va vb vc vy va' : Value} {g : Nat} {o : Obj} (h : Held w va vb vc vy g o) (hs : Step w va w' va') : Held w' va' vb vc vy g o :=
  ⟨(hs.1.block g h.lt h.2.1).trans h.1, h.2.stepA h.lt hs⟩
theorem Held.stepB {w w' : World} {va vb vc vy vb' : Value} {g : Nat} {o : Obj} (h : Held w va vb vc vy g o) (hs : Step w vb w' vb') : Held w' va vb' vc vy g o :=
  ⟨(hs.1.block g h.lt h.2.2.1).trans h.1, h.2.stepB h.lt hs⟩
theorem Held.stepC {w w' : World} {va vb vc vy vc' : Value} {g : Nat} {o : Obj} (h : Held w va vb vc vy g o) (hs : Step w vc w' vc') : Held w' va vb vc' vy g o :=
  ⟨(hs.1.block g h.lt h.2.2.2.1).trans h.1, h.2.stepC h.lt hs⟩
theorem Held.stepY {w w' : World} {va vb vc vy vy' : Value} {g : Nat} {o : Obj} (h : Held w va vb vc vy g o) (hs : Step w vy w' vy') : Held w' va vb vc vy' g o :=
  ⟨(hs.1.block g h.lt h.2.2.2.2).trans h.1, h.2.stepY h.lt hs⟩
theorem St.pushA {w0 wr : World} {ch : Nat → Ch} {t : Option Nat} {va vb vc vy x : Value} {n : Nat} {LA LB : List Bytes} {Y M : Bytes} (h : St w0 wr ch t va vb vc vy n LA LB Y) (hx : LineV wr t va vb vc vy x M) (hl : LA.length ≤ 100000) :
    ∃ va' w', (Builtin.append_ #[26, 26] 26 #[va, .slice (some ⟨wr.heap.size, 0, none⟩) 1 1]).run Ybad.prog (wr.alloc (.cells #[x] 22)) = .ok va' w' ∧ St w0 w' ch t va' vb vc vy n (LA ++ [M]) LB Y ∧ Step wr va w' va' := by
  obtain ⟨pa, pb, hr, hw, ht⟩ := h
  obtain ⟨v', w', h1, h2, h3⟩ := app26 26 hr.oa hw.size x hx.one (by rw [hr.la.1]; exact hl)
  refine ⟨v', w', h1, ⟨_, _, hr.pushA hx h3 h2 ht, hw.trans (h3.below hw.size fun k hk => (World.ownsRow.lt hr.oa k hk).1), fun k hk => Nat.lt_of_lt_of_le (ht k hk) h3.1.size⟩, h3⟩
theorem St.pushB {w0 wr : World} {ch : Nat → Ch} {t : Option Nat} {va vb vc vy x : Value} {n : Nat} {LA LB : List Bytes} {Y M : Bytes} (h : St w0 wr ch t va vb vc vy n LA LB Y) (hx : LineV wr t va vb vc vy x M) (hl : LB.length ≤ 100000) :
    ∃ vb' w', (Builtin.append_ #[26, 26] 26 #[vb, .slice (some ⟨wr.heap.size, 0, none⟩) 1 1]).run Ybad.prog (wr.alloc (.cells #[x] 22)) = .ok vb' w' ∧ St w0 w' ch t va vb' vc vy n LA (LB ++ [M]) Y ∧ Step wr vb w' vb' := by
  obtain ⟨pa, pb, hr, hw, ht⟩ := h
  obtain ⟨v', w', h1, h2, h3⟩ := app26 26 hr.ob hw.size x hx.one (by rw [hr.lb.1]; exact hl)
  refine ⟨v', w', h1, ⟨_, _, hr.pushB hx h3 h2 ht, hw.trans (h3.below hw.size fun k hk => (World.ownsRow.lt hr.ob k hk).1), fun k hk => Nat.lt_of_lt_of_le (ht k hk) h3.1.size⟩, h3⟩
theorem St.pushC {w0 wr : World} {ch : Nat → Ch} {t : Option Nat} {va vb vc vy : Value} {n : Nat} {LA LB : List Bytes} {Y : Bytes} (h : St w0 wr ch t va vb vc vy n LA LB Y) (hl : n ≤ 100000) :
    ∃ vc' w', (Builtin.append_ #[27, 27] 27 #[vc, .slice (some ⟨wr.heap.size, 0, none⟩) 1 1]).run Ybad.prog (wr.alloc (.cells #[.int .i64 ((ch n).x0 : Int), .int .i64 ((ch n).x1 : Int), .int .i64 ((ch n).y0 : Int), .int .i64 ((ch n).y1 : Int)] 31)) = .ok vc' w' ∧ St w0 w' ch t va vb vc' vy (n + 1) LA LB Y := by
  obtain ⟨pa, pb, hr, hw, ht⟩ := h
  obtain ⟨v', w', h1, h2, h3⟩ := app27 27 hr.oc hw.size ((ch n).x0 : Int) ((ch n).x1 : Int) ((ch n).y0 : Int) ((ch n).y1 : Int) hl
  exact ⟨v', w', h1, _, _, hr.pushC h3 h2 ht, hw.trans (h3.below hw.size fun k hk => (World.ownsRow.lt hr.oc k hk).1), fun k hk => Nat.lt_of_lt_of_le (ht k hk) h3.1.size⟩
theorem St.pushY {w0 wr w' : World} {ch : Nat → Ch} {t : Option Nat} {va vb vc vy vy' : Value} {n : Nat} {LA LB : List Bytes} {Y Y' : Bytes} (h : St w0 wr ch t va vb vc vy n LA LB Y) (hs : Step wr vy w' vy') (ho : Own w' w0.heap.size vy' Y') : St w0 w' ch t va vb vc vy' n LA LB Y' := by
  obtain ⟨pa, pb, hr, hw, ht⟩ := h
  exact ⟨_, _, hr.pushY hs ho ht, hw.trans (hs.below hw.size fun k hk => (World.ownsRow.lt hr.oy k hk).1), fun k hk => Nat.lt_of_lt_of_le (ht k hk) hs.1.size⟩
theorem St.oy {w0 wr : World} {ch : Nat → Ch} {t : Option Nat} {va vb vc vy : Value} {n : Nat} {LA LB : List Bytes} {Y : Bytes} (h : St w0 wr ch t va vb vc vy n LA LB Y) : Own wr w0.heap.size vy Y := by
  obtain ⟨pa, pb, hr, hw, ht⟩ := h
  exact hr.oy
theorem St.below {w0 wr : World} {ch : Nat → Ch} {t : Option Nat} {va vb vc vy : Value} {n : Nat} {LA LB : List Bytes} {Y : Bytes} (h : St w0 wr ch t va vb vc vy n LA LB Y) : Below w0.heap.size w0 wr := by
  obtain ⟨pa, pb, hr, hw, ht⟩ := h
  exact hw
theorem St.line {w0 wr w' : World} {ch : Nat → Ch} {t : Option Nat} {va vb vc vy : Value} {n : Nat} {LA LB : List Bytes} {Y M : Bytes} {g c : Nat} (h : St w0 wr ch t va vb vc vy n LA LB Y) (hg : wr.heap.size ≤ g) (hg2 : g < w'.heap.size) (hl : Line w' g M) (hm : M.length ≤ 3) :
    LineV w' t va vb vc vy (.slice (some ⟨g, 0, none⟩) M.length c) M := by
  obtain ⟨pa, pb, hr, hw, ht⟩ := h
  exact LineV.mk hr hg hg2 hl ht hm
theorem own_form {w : World} {B : Nat} {e : TypeId} {size : Nat} {v : Value} {n : Nat} {xs : List Value} (h : w.ownsRow B e size v n xs) : ∃ a c, v = .slice a n c ∧ n ≤ c := by
  rcases h.2 with ⟨rfl, rfl⟩ | ⟨g, cap, cur, rfl, _, _, hn, _⟩
  · exact ⟨none, 0, rfl, Nat.le_refl _⟩
  · exact ⟨_, cap, rfl, hn⟩
theorem St.forms {w0 wr : World} {ch : Nat → Ch} {t : Option Nat} {va vb vc vy : Value} {n : Nat} {LA LB : List Bytes} {Y : Bytes} (h : St w0 wr ch t va vb vc vy n LA LB Y) : (∃ a c, va = .slice a LA.length c ∧ LA.length ≤ c) ∧ (∃ a c, vb = .slice a LB.length c ∧ LB.length ≤ c) ∧ (∃ a c, vc = .slice a n c) := by
  obtain ⟨pa, pb, hr, hw, ht⟩ := h
  refine ⟨?_, ?_, ?_⟩
  · rw [← hr.la.1]; exact own_form hr.oa
  · rw [← hr.lb.1]; exact own_form hr.ob
  · obtain ⟨a, c, e, _⟩ := own_form hr.oc
    exact ⟨a, c, e⟩
theorem St.newT {w0 wr : World} {ch : Nat → Ch} {va vb vc vy : Value} {n : Nat} {LA LB : List Bytes} {Y : Bytes} (h : St w0 wr ch none va vb vc vy n LA LB Y) (o : Obj) : St w0 (wr.alloc o) ch (some wr.heap.size) va vb vc vy n LA LB Y := by
  obtain ⟨pa, pb, hr, hw, ht⟩ := h
  exact ⟨pa, pb, hr.newT o, hw.alloc hw.size o, fun k hk => by cases hk; simp⟩
theorem St.dropT {w0 wr : World} {ch : Nat → Ch} {t : Option Nat} {va vb vc vy : Value} {n : Nat} {LA LB : List Bytes} {Y : Bytes} (h : St w0 wr ch t va vb vc vy n LA LB Y) : St w0 wr ch none va vb vc vy n LA LB Y := by
  obtain ⟨pa, pb, hr, hw, ht⟩ := h
  exact ⟨pa, pb, hr.dropT, hw, fun k hk => by cases hk⟩
theorem St.setT {w0 wr : World} {ch : Nat → Ch} {T : Nat} {va vb vc vy : Value} {n : Nat} {LA LB : List Bytes} {Y : Bytes} (h : St w0 wr ch (some T) va vb vc vy n LA LB Y) (hT : w0.heap.size ≤ T) (o : Nat) (u : Value) : St w0 (wr.setCell ⟨T, o, none⟩ u) ch (some T) va vb vc vy n LA LB Y := by
  obtain ⟨pa, pb, hr, hw, ht⟩ := h
  exact ⟨pa, pb, hr.setT o u, hw.setCell hT u, fun k hk => by have := ht k hk; simpa using this⟩

/-! ### the plain sums -/
theorem blk_app (p : UInt8) (LA N : List Bytes) (a b : Nat) (h : b ≤ LA.length) : blk p (LA ++ N) a b = blk p LA a b := by
  unfold blk
  rw [List.take_append_of_le_length h]
theorem blk_push (p : UInt8) (LA : List Bytes) (M : Bytes) (a j : Nat) (h : a ≤ j) (hj : LA.length = j) : blk p (LA ++ [M]) a (j + 1) = blk p LA a j ++ lineN p M := by
  rw [blk_step p (LA ++ [M]) a j h (by simp; omega), blk_app p LA [M] a j (by omega)]
  subst hj
  simp
theorem blk_past (p : UInt8) (LA : List Bytes) (a b : Nat) (h : b ≤ a) : blk p LA a b = [] := by
  unfold blk
  rw [List.drop_eq_nil_of_le (by simp; omega)]
  rfl
theorem rendTo_app (LA LB N N' : List Bytes) (ch : Nat → Ch) (s : Nat) : ∀ i : Nat, (∀ k, k < i → (ch k).x0 ≤ LA.length ∧ (ch k).x1 ≤ LA.length ∧ (ch k).y1 ≤ LB.length) → rendTo (LA ++ N) (LB ++ N') ch s i = rendTo LA LB ch s i
  | 0, _ => rfl
  | i + 1, h => by
    obtain ⟨h1, h2, h3⟩ := h i (by omega)
    simp only [rendTo]
    rw [rendTo_app LA LB N N' ch s i (fun k hk => h k (by omega)), blk_app _ _ _ _ _ h1, blk_app _ _ _ _ _ h2, blk_app _ _ _ _ _ h3]
theorem rendTo_appA (LA LB N : List Bytes) (ch : Nat → Ch) (s i : Nat) (h : ∀ k, k < i → (ch k).x0 ≤ LA.length ∧ (ch k).x1 ≤ LA.length ∧ (ch k).y1 ≤ LB.length) : rendTo (LA ++ N) LB ch s i = rendTo LA LB ch s i := by
  have := rendTo_app LA LB N [] ch s i h
  rwa [List.append_nil] at this
theorem rendTo_appB (LA LB N : List Bytes) (ch : Nat → Ch) (s i : Nat) (h : ∀ k, k < i → (ch k).x0 ≤ LA.length ∧ (ch k).x1 ≤ LA.length ∧ (ch k).y1 ≤ LB.length) : rendTo LA (LB ++ N) ch s i = rendTo LA LB ch s i := by
  have := rendTo_app LA LB [] N ch s i h
  rwa [List.append_nil] at this
def PS (C D : Nat → Nat) : Nat → Nat
  | 0 => 0
  | i + 1 => PS C D i + C i % 5 + D i % 4
def chf (C D I : Nat → Nat) (i : Nat) : Ch := { x0 := PS C D i + C i % 5, x1 := PS C D (i + 1), y0 := PS C I i + C i % 5, y1 := PS C I (i + 1) }
theorem PS_mono (C D : Nat → Nat) {i k : Nat} (h : i ≤ k) : PS C D i ≤ PS C D k := by
  induction k with
  | zero => rw [Nat.le_zero.1 h]; exact Nat.le_refl _
  | succ k ih =>
    by_cases e : i = k + 1
    · rw [e]; exact Nat.le_refl _
    · have := ih (by omega)
      simp only [PS]
      omega
theorem PS_le (C D : Nat → Nat) (i : Nat) : PS C D i ≤ 7 * i := by
  induction i with
  | zero => simp [PS]
  | succ k ih =>
    have h1 := Nat.mod_lt (C k) (show 0 < 5 by decide)
    have h2 := Nat.mod_lt (D k) (show 0 < 4 by decide)
    simp only [PS]
    omega
theorem chf_in (C D I : Nat → Nat) {i k : Nat} (h : k < i) : (chf C D I k).x0 ≤ PS C D i ∧ (chf C D I k).x1 ≤ PS C D i ∧ (chf C D I k).y1 ≤ PS C I i := by
  have h1 := PS_mono C D (show k + 1 ≤ i by omega)
  have h2 := PS_mono C I (show k + 1 ≤ i by omega)
  refine ⟨?_, h1, h2⟩
  simp only [PS] at h1
  show PS C D k + C k % 5 ≤ _
  omega
theorem pickN_length (x : Nat → Nat) (len k : Nat) : (pickN x len k).length ≤ 3 := by
  unfold pickN
  split
  · decide
  · generalize x (k % len) % 6 = r
    unfold tabStr
    split <;> decide
end Go.Proofs.YbulkbtkaDoor
