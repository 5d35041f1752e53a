/-
  sumLowest.
-/
import Derived.Test.YbulkbtdoUE
import Derived.Deep.RegionWith
namespace Go.Proofs.Ybulkbtdo.U
open Go.RowKit
set_option maxRecDepth 100000
/-! ### the plain law: of two lists that are not both empty, some place is left -/
theorem atMost_trans {a b c : Am} (hp : ∀ (i : Nat) (p : Nat × Nat), a[i]? = some p → 1 ≤ p.2) (h1 : atMostN a b = true) (h2 : atMostN b c = true) : atMostN a c = true := by
  rw [atMostN_iff] at *
  intro i p hpi
  have hb := h1 i p hpi
  have h1p := hp i p hpi
  have : ofN b p.1 ≠ 0 := by omega
  unfold ofN at this hb
  cases e : b.find? (fun q => q.1 == p.1) with
  | none => rw [e] at this; exact absurd rfl this
  | some q =>
    rw [e] at hb
    have hb' : p.2 ≤ q.2 := hb
    have h1 : q.1 = p.1 := by simpa using List.find?_some e
    obtain ⟨j, hj⟩ := List.getElem?_of_mem (List.mem_of_find?_eq_some e)
    have := h2 j q hj
    rw [h1] at this
    omega
/-- strictly lower -/
def Lt (N : Nat → Am) (q p : Nat) : Prop := atMostN (N q) (N p) = true ∧ atMostN (N p) (N q) = false
def keepL (N : Nat → Am) (A B : List Nat) : List Nat := A.filter fun p => !lowerInN N B p false
def keepR (N : Nat → Am) (A B : List Nat) : List Nat := B.filter fun p => !lowerInN N A p true
theorem exists_min {α : Type} (lt : α → α → Prop) (tr : ∀ {a b c : α}, lt a b → lt b c → lt a c) (ir : ∀ a, ¬ lt a a) : ∀ (l : List α), l ≠ [] → ∃ m ∈ l, ∀ x ∈ l, ¬ lt x m := by
  intro l
  induction l with
  | nil => intro h; exact absurd rfl h
  | cons a l ih =>
    intro _
    by_cases hl : l = []
    · subst hl
      exact ⟨a, by simp, fun x hx => by simp at hx; subst hx; exact ir x⟩
    · obtain ⟨m, hm, hmin⟩ := ih hl
      by_cases h : lt a m
      · refine ⟨a, by simp, fun x hx => ?_⟩
        rcases List.mem_cons.1 hx with rfl | hx
        · exact ir _
        · exact fun h2 => hmin x hx (tr h2 h)
      · refine ⟨m, by simp [hm], fun x hx => ?_⟩
        rcases List.mem_cons.1 hx with rfl | hx
        · exact h
        · exact hmin x hx
theorem kept_some {N : Nat → Am} {n : Nat} (ok : ∀ i, i < n → AmOk (N i)) {A B : List Nat} (hA : ∀ p ∈ A, p < n) (hB : ∀ p ∈ B, p < n) (hne : A ≠ [] ∨ B ≠ []) : keepL N A B ++ keepR N A B ≠ [] := by
  -- a minimal place of all of them under 'strictly lower'
  have pos : ∀ p, p < n → ∀ (i : Nat) (q : Nat × Nat), (N p)[i]? = some q → 1 ≤ q.2 := fun p hp => (ok p hp).p
  have lt_tr : ∀ {a b c : {x : Nat // x < n}}, Lt N a.1 b.1 → Lt N b.1 c.1 → Lt N a.1 c.1 := fun {a b c} h1 h2 => by
    refine ⟨atMost_trans (pos a.1 a.2) h1.1 h2.1, ?_⟩
    rw [← Bool.not_eq_true]
    intro h
    have := atMost_trans (pos b.1 b.2) h2.1 h
    rw [h1.2] at this
    cases this
  have lt_ir : ∀ a : {x : Nat // x < n}, ¬ Lt N a.1 a.1 := fun a h => by
    have h1 := h.1
    have h2 := h.2
    rw [h1] at h2
    cases h2
  have hAB : ∀ p ∈ A ++ B, p < n := fun p hp => by
    rcases List.mem_append.1 hp with h | h
    · exact hA p h
    · exact hB p h
  have hne' : (A ++ B).attach.map (fun x => (⟨x.1, hAB x.1 x.2⟩ : {x : Nat // x < n})) ≠ [] := by
    intro h
    have h2 : (A ++ B).length = 0 := by
      have := congrArg List.length h
      simpa using this
    rcases hne with h3 | h3
    · exact h3 (List.eq_nil_of_length_eq_zero (by rw [List.length_append] at h2; omega))
    · exact h3 (List.eq_nil_of_length_eq_zero (by rw [List.length_append] at h2; omega))
  obtain ⟨m, hm, hmin⟩ := exists_min (fun a b : {x : Nat // x < n} => Lt N a.1 b.1) (fun h1 h2 => lt_tr h1 h2) lt_ir _ hne'
  have hmin' : ∀ x ∈ A ++ B, ¬ Lt N x m.1 := fun x hx => hmin ⟨x, hAB x hx⟩ (List.mem_map.2 ⟨⟨x, hx⟩, List.mem_attach _ _, rfl⟩)
  obtain ⟨⟨m0, hm0⟩, _, rfl⟩ := List.mem_map.1 hm
  -- if it is of A, it is kept
  have keepA : ∀ p ∈ A, (∀ x ∈ A ++ B, ¬ Lt N x p) → p ∈ keepL N A B := fun p hp hmn => by
    refine List.mem_filter.2 ⟨hp, ?_⟩
    rw [Bool.not_eq_true']
    refine List.any_eq_false.2 fun q hq h => hmn q (List.mem_append.2 (.inr hq)) ?_
    simp only [Bool.false_or, Bool.and_eq_true, Bool.not_eq_true'] at h
    exact h
  rcases List.mem_append.1 hm0 with hmA | hmB
  · have := keepA m0 hmA hmin'
    intro e
    rw [List.append_eq_nil_iff] at e
    rw [e.1] at this
    cases this
  · -- of B: kept, or some place of A is at or below it; then that place is minimal too
    by_cases hk : lowerInN N A m0 true = true
    · obtain ⟨q, hq, h⟩ := List.any_eq_true.1 hk
      simp only [Bool.true_or, Bool.and_true] at h
      have hqm : ∀ x ∈ A ++ B, ¬ Lt N x q := fun x hx hl => hmin' x hx ⟨atMost_trans (pos x (hAB x hx)) hl.1 h, by
        rw [← Bool.not_eq_true]
        intro h2
        have := atMost_trans (pos q (hA q hq)) h h2
        rw [hl.2] at this
        cases this⟩
      have := keepA q hq hqm
      intro e
      rw [List.append_eq_nil_iff] at e
      rw [e.1] at this
      cases this
    · have : m0 ∈ keepR N A B := List.mem_filter.2 ⟨hmB, by simpa using hk⟩
      intro e
      rw [List.append_eq_nil_iff] at e
      rw [e.2] at this
      cases this
theorem New.of_chg {D : Nat → Prop} {w w1 w2 : World} (h : New w w1) (k : Chg D w1 w2) (hd : ∀ b, D b → w.heap.size ≤ b) : New w w2 := h.trans k (fun b hb e => by have := hd b e; omega)
theorem lowQ_lt {w : World} {G : Geo} {N : Nat → Am} {nv : Nat → Value} {al : Bool} {X : Cur} (h : Tree w G N nv al X) (mem : Nat → Bool) {r : Nat} (hr : 1 ≤ r) : (∀ q ∈ lowQ G mem X r, q < G.n) ∧ (lowQ G mem X r).length ≤ 8 ∧ (lowOk G X r = true → decide (lowQ G mem X r ≠ []) = rangeIn G mem X r) ∧ (lowOk G X r = false → rangeIn G mem X r = true) := by
  unfold lowQ lowOk rangeIn
  by_cases h1 : r < G.size
  · have h9 := h.o9 (r - 1) (by omega)
    simp only [if_pos h1]
    by_cases e : X.lo (r - 1) = 9
    · simp [e]
    · simp only [if_neg e]
      refine ⟨fun q hq => ?_, by simp; omega, fun _ => ?_, fun h => ?_⟩
      · obtain ⟨j, hj, rfl⟩ := List.mem_map.1 hq
        exact h.w8 (r - 1) j (by omega) (by omega) (List.mem_range.1 hj)
      · by_cases e0 : X.lo (r - 1) = 0
        · simp [e0]
        · have : ((List.range (X.lo (r - 1))).map fun j => X.lw ((r - 1) * 8 + j)) ≠ [] := by
            intro e
            have := congrArg List.length e
            simp at this
            exact e0 this
          rw [decide_eq_true this]
          have : ((X.lo (r - 1) : Int) != 0) = true := by simp; omega
          exact this.symm
      · simp at h; omega
  · simp only [if_neg h1]
    cases hh : held G mem (r - G.size) with
    | true =>
      have hp : r - G.size < G.n := by unfold held at hh; simp at hh; exact hh.1
      simp [hp]
    | false => simp
theorem keepL_step {N : Nat → Am} {A B : List Nat} {i p : Nat} (h : A[i]? = some p) : keepL N (A.take (i + 1)) B = keepL N (A.take i) B ++ if lowerInN N B p false then [] else [p] := by
  unfold keepL
  rw [List.take_add_one, h, List.filter_append]
  congr 1
  cases e : lowerInN N B p false <;> simp [e]
theorem keepR_step {N : Nat → Am} {A B : List Nat} {i p : Nat} (h : B[i]? = some p) : keepR N A (B.take (i + 1)) = keepR N A (B.take i) ++ if lowerInN N A p true then [] else [p] := by
  unfold keepR
  rw [List.take_add_one, h, List.filter_append]
  congr 1
  cases e : lowerInN N A p true <;> simp [e]
theorem keepL_le (N : Nat → Am) (A B : List Nat) (i : Nat) : (keepL N (A.take i) B).length ≤ i := Nat.le_trans (List.length_filter_le _ _) (by simp; omega)
theorem keepR_le (N : Nat → Am) (A B : List Nat) (i : Nat) : (keepR N A (B.take i)).length ≤ i := Nat.le_trans (List.length_filter_le _ _) (by simp; omega)
/-- the first cells of the array are the places K -/
def Listed (w : World) (C : Nat) (K : List Nat) : Prop := ∃ pl : Nat → Nat, RowIs w C 85 16 (fun j => .int .i32 (pl j : Int)) ∧ ∀ (j q : Nat), K[j]? = some q → pl j = q
theorem Listed.push {w : World} {C : Nat} {K : List Nat} (h : Listed w C K) (hl : K.length < 16) (p : Nat) : Listed (w.setCell ⟨C, K.length, none⟩ (.int .i32 (p : Int))) C (K ++ [p]) := by
  obtain ⟨pl, hr, hp⟩ := h
  refine ⟨fun j => if j = K.length then p else pl j, (hr.set hl _).ext fun j _ => ?_, fun j q hq => ?_⟩
  · show (if j = K.length then _ else _) = Value.int .i32 ((if j = K.length then p else pl j : Nat) : Int)
    split <;> rfl
  · show (if j = K.length then p else pl j) = q
    by_cases e : j = K.length
    · subst e
      rw [if_pos rfl]
      simpa using hq
    · rw [if_neg e]
      have hj : j < (K ++ [p]).length := (List.getElem?_eq_some_iff.1 hq).1
      rw [List.getElem?_append_left (by simp at hj; omega)] at hq
      exact hp j q hq
theorem Listed.new {w w' : World} {C : Nat} {K : List Nat} (h : Listed w C K) (hn : New w w') : Listed w' C K := by
  obtain ⟨pl, hr, hp⟩ := h
  exact ⟨pl, hr.chg hn (fun h => h), hp⟩
theorem slice85 {C m : Nat} (hm : m ≤ 16) (w : World) : (Instr.sliceAt 85 (.pointer (some ⟨C, 0, none⟩)) none (some (.int .i64 (m : Int))) none).run Yba.prog w = .ok (.slice (some ⟨C, 0, none⟩) m 16) w := by
  have hl : Yba.prog.arrayLen 85 = 16 := by kernel_rfl
  have he : Yba.prog.underlying 85 = some (.array (Yba.prog.arrayLen 85) (Yba.prog.elem 85)) := by kernel_rfl
  have hs : (sizeOf (Yba.prog.elem 85)).run Yba.prog w = .ok 1 w := by kernel_rfl
  rw [run_sliceAt_array_h w 85 ⟨C, 0, none⟩ he .i64 (m : Int) (by omega) (by rw [hl]; omega), hs]
  simp [Result.andThen, slicedAt, hl]
  rfl
set_option maxHeartbeats 4000000 in
theorem sumLowest_any (G : Geo) (N : Nat → Am) (nv : Nat → Value) (al : Bool) (X : Cur) (SB r : Nat) (mem : Nat → Bool) (w : World) (h : Tree w G N nv al X) (hs : SetAt w G SB mem) (hr1 : 1 ≤ r) (hr2 : r < G.size) :
    Calls Yba.prog 17 #[.pointer (some ⟨G.T, 0, none⟩), .pointer (some ⟨SB, 0, none⟩), .int .i64 (r : Int)] w fun e w' => ∃ (c m : Nat) (pl : Nat → Nat), RetB e (fun ch => ch = false → X.lo (r - 1) = c) ∧ Tree w' G N nv al (X.setLow (r - 1) c m pl) ∧ Chg (Dt G) w w' ∧ decide (c ≠ 0) = (rangeIn G mem X (2 * r) || rangeIn G mem X (2 * r + 1)) := by
  have HT : Hid (Tree w G N nv al X) := h
  have HS : Hid (SetAt w G SB mem) := hs
  have hs256 := h.ok.s256
  have HSZ : Hid (G.GO < w.heap.size ∧ G.GW < w.heap.size) := ⟨h.or.lt, h.wr.lt⟩
  clear h hs
  have HN1 : Hid (New w ((w.alloc (.cells #[.int .i32 0] 81)).alloc (.cells #[.int .i32 0] 81))) := ((Chg.refl _ w).alloc _).alloc _
  have rA : RowIs ((w.alloc (.cells #[.int .i32 0] 81)).alloc (.cells #[.int .i32 0] 81)) w.heap.size 81 1 (fun i => (#[.int .i32 0] : Array Value)[i]?.getD undef) := (RowIs.made w #[.int .i32 0] 81).chg ((Chg.refl (fun _ => False) _).alloc _) (fun h => h)
  have rB : RowIs ((w.alloc (.cells #[.int .i32 0] 81)).alloc (.cells #[.int .i32 0] 81)) (w.heap.size + 1) 81 1 (fun i => (#[.int .i32 0] : Array Value)[i]?.getD undef) := by
    have := RowIs.made (w.alloc (.cells #[.int .i32 0] 81)) #[.int .i32 0] 81
    simpa using this
  have HRA : Hid (RowIs ((w.alloc (.cells #[.int .i32 0] 81)).alloc (.cells #[.int .i32 0] 81)) w.heap.size 81 1 (fun i => (#[.int .i32 0] : Array Value)[i]?.getD undef)) := rA
  have HRB : Hid (RowIs ((w.alloc (.cells #[.int .i32 0] 81)).alloc (.cells #[.int .i32 0] 81)) (w.heap.size + 1) 81 1 (fun i => (#[.int .i32 0] : Array Value)[i]?.getD undef)) := rB
  have HGW : Hid (G.GW < w.heap.size) := by
    show G.GW < w.heap.size
    exact HSZ.out.2
  obtain ⟨hq1, hql1, hqy1, hqn1⟩ := lowQ_lt HT.out mem (r := 2 * r) (by omega)
  obtain ⟨hq2, hql2, hqy2, hqn2⟩ := lowQ_lt HT.out mem (r := 2 * r + 1) (by omega)
  have HQ1 : Hid ((∀ q ∈ lowQ G mem X (2 * r), q < G.n) ∧ (lowOk G X (2 * r) = true → decide (lowQ G mem X (2 * r) ≠ []) = rangeIn G mem X (2 * r)) ∧ (lowOk G X (2 * r) = false → rangeIn G mem X (2 * r) = true)) := ⟨hq1, hqy1, hqn1⟩
  have HQ2 : Hid ((∀ q ∈ lowQ G mem X (2 * r + 1), q < G.n) ∧ (lowOk G X (2 * r + 1) = true → decide (lowQ G mem X (2 * r + 1) ≠ []) = rangeIn G mem X (2 * r + 1)) ∧ (lowOk G X (2 * r + 1) = false → rangeIn G mem X (2 * r + 1) = true)) := ⟨hq2, hqy2, hqn2⟩
  clear rA rB hq1 hqy1 hqn1 hq2 hqy2 hqn2
  go_enter Yba.func17, Yba.ntmps17
  go_wp2_with fail
  generalize hw1 : (w.alloc (.cells #[.int .i32 0] 81)).alloc (.cells #[.int .i32 0] 81) = w1 at *
  clear hw1
  rw [show (2 : Int) * (r : Int) = ((2 * r : Nat) : Int) by simp]
  refine (rangeLowest_any G N nv al X SB (2 * r) w.heap.size mem _ w1 (HT.out.new HN1.out) (HS.out.chg (New.any HN1.out)) (by omega) (by omega) HRA.out).mono ?_
  rintro e w2 ⟨v1, rfl, hp1, hc1, ho1⟩
  have HN2 : Hid (New w w2) := HN1.out.of_chg hc1 (fun b e => by omega)
  have HRB2 := HRB.out.chg hc1 (by omega)
  have HRB2' : Hid (RowIs w2 (w.heap.size + 1) 81 1 (fun i => (#[.int .i32 0] : Array Value)[i]?.getD undef)) := HRB2
  have HP1 : Hid (PlV w2 v1 (lowQ G mem X (2 * r))) := hp1
  have HO1 : Hid (∀ b, v1.ownBlock = some b → b = w.heap.size ∨ b = G.GW) := ho1
  clear hp1 hc1 ho1 HRB2
  go_wp2_with fail
  rw [show (2 : Int) * (r : Int) + 1 = ((2 * r + 1 : Nat) : Int) by simp]
  refine (rangeLowest_any G N nv al X SB (2 * r + 1) (w.heap.size + 1) mem _ w2 (HT.out.new HN2.out) (HS.out.chg (New.any HN2.out)) (by omega) (by omega) HRB2'.out).mono ?_
  rintro e w3 ⟨v2, rfl, hp2, hc2, ho2⟩
  have HN3 : Hid (New w w3) := HN2.out.of_chg hc2 (fun b e => by omega)
  have HP1' : Hid (PlV w3 v1 (lowQ G mem X (2 * r))) := HP1.out.chg hc2 (fun k hk e => by
    have := HGW.out
    rcases HO1.out k hk with h | h
    · omega
    · omega)
  have HP2 : Hid (PlV w3 v2 (lowQ G mem X (2 * r + 1))) := hp2
  have HCC : Hid (∀ b, v1.ownBlock = some b ∨ v2.ownBlock = some b → b ≠ w3.heap.size) := fun b hb => by
    have h1 := HGW.out
    have h2 := HRB2'.out.lt
    have h3 := hc2.size
    rcases hb with hb | hb
    · rcases HO1.out b hb with h | h <;> omega
    · rcases ho2 b hb with h | h <;> omega
  clear hp2 hc2 ho2 HP1 HRB2' HRA HRB
  generalize lowQ G mem X (2 * r) = Q1 at *
  generalize lowQ G mem X (2 * r + 1) = Q2 at *
  have HN4 : Hid (New w (w3.alloc (.cells #[.int .i32 0, .int .i32 0, .int .i32 0, .int .i32 0, .int .i32 0, .int .i32 0, .int .i32 0, .int .i32 0, .int .i32 0, .int .i32 0, .int .i32 0, .int .i32 0, .int .i32 0, .int .i32 0, .int .i32 0, .int .i32 0] 85))) := HN3.out.alloc _
  have HP1 : Hid (PlV (w3.alloc (.cells #[.int .i32 0, .int .i32 0, .int .i32 0, .int .i32 0, .int .i32 0, .int .i32 0, .int .i32 0, .int .i32 0, .int .i32 0, .int .i32 0, .int .i32 0, .int .i32 0, .int .i32 0, .int .i32 0, .int .i32 0, .int .i32 0] 85)) v1 Q1) := HP1'.out.chg ((Chg.refl (fun _ => False) w3).alloc _) (fun _ _ h => h)
  have HP2' : Hid (PlV (w3.alloc (.cells #[.int .i32 0, .int .i32 0, .int .i32 0, .int .i32 0, .int .i32 0, .int .i32 0, .int .i32 0, .int .i32 0, .int .i32 0, .int .i32 0, .int .i32 0, .int .i32 0, .int .i32 0, .int .i32 0, .int .i32 0, .int .i32 0] 85)) v2 Q2) := HP2.out.chg ((Chg.refl (fun _ => False) w3).alloc _) (fun _ _ h => h)
  have HL : Hid (Listed (w3.alloc (.cells #[.int .i32 0, .int .i32 0, .int .i32 0, .int .i32 0, .int .i32 0, .int .i32 0, .int .i32 0, .int .i32 0, .int .i32 0, .int .i32 0, .int .i32 0, .int .i32 0, .int .i32 0, .int .i32 0, .int .i32 0, .int .i32 0] 85)) w3.heap.size []) := by
    refine ⟨fun _ => 0, (RowIs.made w3 #[.int .i32 0, .int .i32 0, .int .i32 0, .int .i32 0, .int .i32 0, .int .i32 0, .int .i32 0, .int .i32 0, .int .i32 0, .int .i32 0, .int .i32 0, .int .i32 0, .int .i32 0, .int .i32 0, .int .i32 0, .int .i32 0] 85).ext fun i hi => ?_, fun j q hq => by simp at hq⟩
    have : i < 16 := hi
    match i, this with
    | 0, _ | 1, _ | 2, _ | 3, _ | 4, _ | 5, _ | 6, _ | 7, _ | 8, _ | 9, _ | 10, _ | 11, _ | 12, _ | 13, _ | 14, _ | 15, _ => rfl
    | n + 16, h => omega
  have HC : Hid (w.heap.size ≤ w3.heap.size) := HN3.out.size
  clear HP1' HP2
  go_upto_region 6 with fail
  generalize hw4 : w3.alloc (.cells #[.int .i32 0, .int .i32 0, .int .i32 0, .int .i32 0, .int .i32 0, .int .i32 0, .int .i32 0, .int .i32 0, .int .i32 0, .int .i32 0, .int .i32 0, .int .i32 0, .int .i32 0, .int .i32 0, .int .i32 0, .int .i32 0] 85) = w4 at *
  clear hw4
  generalize hC : w3.heap.size = C at *
  clear hC
  generalize lowOk G X (2 * r) = k1 at *
  generalize lowOk G X (2 * r + 1) = k2 at *
  go_cut [40] (fun s40 wx => s40 = .bool (k1 && k2) ∧ w4 = wx)
  case first => as_aux_lemma =>
    cases k1 <;> cases k2
    all_goals go_wp2_with fail
    all_goals go_meet
    all_goals exact ⟨rfl, rfl⟩
  case rest =>
  obtain ⟨rfl, rfl⟩ := hcut
  go_upto_if 40 with fail
  go_cut [14] (fun s14 wx => ∃ K : List Nat, s14 = .int .i64 (K.length : Int) ∧ K.length ≤ 16 ∧ Listed wx C K ∧ New w wx ∧ Hid (K = if (k1 && k2) = true then keepL N Q1 Q2 ++ keepR N Q1 Q2 else []))
  case first => as_aux_lemma =>
    by_cases hkk : (k1 && k2) = true
    · have HKK : Hid ((if (k1 && k2) = true then keepL N Q1 Q2 ++ keepR N Q1 Q2 else []) = keepL N Q1 Q2 ++ keepR N Q1 Q2) := by show _ = _; rw [if_pos hkk]
      rw [hkk]
      clear hkk
      obtain ⟨a1, c1, rfl, hc1, hx1⟩ := HP1.out
      obtain ⟨a2, c2, rfl, hc2, hx2⟩ := HP2'.out
      clear hx1 hx2
      generalize hm1 : Q1.length = m1 at *
      generalize hm2 : Q2.length = m2 at *
      have HTO : Hid (∀ wr, Chg (fun k => k = C) w4 wr → New w wr ∧ Tree wr G N nv al X ∧ PlV wr (.slice a1 m1 c1) Q1 ∧ PlV wr (.slice a2 m2 c2) Q2) := fun wr hc => by
        have hn : New w wr := HN4.out.of_chg hc (fun b e => by rw [e]; exact HC.out)
        exact ⟨hn, HT.out.new hn, HP1.out.chg hc (fun k hk => HCC.out k (.inl hk)), HP2'.out.chg hc (fun k hk => HCC.out k (.inr hk))⟩
      have hQ1 : Hid (∀ (i q : Nat), Q1[i]? = some q → q < G.n) := fun i q hq => HQ1.out.1 q (List.mem_of_getElem? hq)
      have hQ2 : Hid (∀ (i q : Nat), Q2[i]? = some q → q < G.n) := fun i q hq => HQ2.out.1 q (List.mem_of_getElem? hq)
      go_wp2
      go_loopw [43, 14] (fun s43 s14 wr => ∃ i : Nat, s43 = .int .i64 (i : Int) ∧ i ≤ m1 ∧ s14 = .int .i64 ((keepL N (Q1.take i) Q2).length : Int) ∧ Listed wr C (keepL N (Q1.take i) Q2) ∧ Chg (fun k => k = C) w4 wr) (fun s43 _ _ => m1 - (intOf s43).toNat)
      case atStart => exact ⟨0, rfl, Nat.zero_le _, by simp [keepL], by simpa [keepL] using HL.out, Chg.refl _ _⟩
      case round =>
        obtain ⟨i, rfl, hin, rfl, hli, hch⟩ := hrel
        obtain ⟨hn, htr, hpa, hpb⟩ := HTO.out wr hch
        have HLI : Hid (Listed wr C (keepL N (Q1.take i) Q2)) := hli
        have HCH : Hid (Chg (fun k => k = C) w4 wr) := hch
        have HTR : Hid (Tree wr G N nv al X) := htr
        have HPB : Hid (PlV wr (.slice a2 m2 c2) Q2) := hpb
        have hkl := keepL_le N Q1 Q2 i
        by_cases hlt : i < m1
        · obtain ⟨q, hq⟩ : ∃ q, Q1[i]? = some q := ⟨_, List.getElem?_eq_getElem (by omega)⟩
          obtain ⟨a1', c1', e1', _, hx1⟩ := hpa
          cases e1'
          obtain ⟨g, o, ha, hcl⟩ := hx1 i q hq
          have hqn := hQ1.out i q hq
          have HSTEP : Hid (keepL N (Q1.take (i + 1)) Q2 = keepL N (Q1.take i) Q2 ++ if lowerInN N Q2 q false then [] else [q]) := keepL_step hq
          subst ha
          clear hx1 hq hn htr hpb hli hch
          generalize keepL N (Q1.take i) Q2 = K at *
          go_wp2_with fail
          refine (lowerIn_any G N nv al X _ Q2 q false wr HTR.out HPB.out hQ2.out hqn (by omega)).mono ?_
          rintro e w5 ⟨rfl, hn5⟩
          have HCH5 : Hid (Chg (fun k => k = C) w4 w5) := HCH.out.new hn5
          have HLI5 : Hid (Listed w5 C K) := HLI.out.new hn5
          clear hn5 hcl
          cases hlow : lowerInN N Q2 q false with
          | true =>
            have HS2 : Hid (keepL N (Q1.take (i + 1)) Q2 = K) := by show _ = _; rw [HSTEP.out, hlow]; simp
            clear hlow HSTEP
            go_wp2_with fail
            go_roundw
            case rel => exact ⟨i + 1, by go_num, by omega, by rw [HS2.out], by rw [HS2.out]; exact HLI5.out, HCH5.out⟩
            case measure => simp [intOf]; omega
          | false =>
            have HS2 : Hid (keepL N (Q1.take (i + 1)) Q2 = K ++ [q]) := by show _ = _; rw [HSTEP.out, hlow]; simp
            clear hlow HSTEP
            obtain ⟨pl, hrow, _⟩ := HLI5.out
            have hkc := hrow.cell (i := K.length) (by omega)
            have hkf := hrow.frozen K.length
            have HLP : Hid (Listed (w5.setCell ⟨C, K.length, none⟩ (.int .i32 (q : Int))) C (K ++ [q])) := HLI5.out.push (by omega) q
            have HCP : Hid (Chg (fun k => k = C) w4 (w5.setCell ⟨C, K.length, none⟩ (.int .i32 (q : Int)))) := HCH5.out.set (fun _ => rfl) _
            clear hrow
            generalize hkn : K.length = kn at *
            go_wp2_with fail
            go_roundw
            case rel =>
              refine ⟨i + 1, by go_num, by omega, ?_, by rw [HS2.out]; exact HLP.out, HCP.out⟩
              rw [HS2.out, List.length_append, hkn]; simp
            case measure => simp [intOf]; omega
        · have hii : i = m1 := by omega
          subst hii
          have HK1 : Hid (keepL N (Q1.take i) Q2 = keepL N Q1 Q2) := by show _ = _; rw [List.take_of_length_le (by omega)]
          rw [HK1.out] at HLI hkl
          rw [HK1.out]
          clear hn htr hpa hpb hli hch
          generalize hKL : keepL N Q1 Q2 = KL at *
          go_wp2
          go_loopw [60, 14] (fun s60 s14 wz => ∃ k : Nat, s60 = .int .i64 (k : Int) ∧ k ≤ m2 ∧ s14 = .int .i64 ((KL ++ keepR N Q1 (Q2.take k)).length : Int) ∧ Listed wz C (KL ++ keepR N Q1 (Q2.take k)) ∧ Chg (fun k => k = C) w4 wz) (fun s60 _ _ => m2 - (intOf s60).toNat)
          case atStart => exact ⟨0, rfl, Nat.zero_le _, by simp [keepR], by simpa [keepR] using HLI.out, HCH.out⟩
          case round =>
            clear HLI HCH HTR HPB hin
            obtain ⟨k, rfl, hkm, rfl, hli, hch⟩ := hrel
            obtain ⟨hn, htr, hpa, hpb⟩ := HTO.out _ hch
            have HLI : Hid (Listed wr C (KL ++ keepR N Q1 (Q2.take k))) := hli
            have HCH : Hid (Chg (fun k => k = C) w4 wr) := hch
            have HTR : Hid (Tree wr G N nv al X) := htr
            have HPA : Hid (PlV wr (.slice a1 i c1) Q1) := hpa
            have hkr := keepR_le N Q1 Q2 k
            by_cases hlt2 : k < m2
            · obtain ⟨q, hq⟩ : ∃ q, Q2[k]? = some q := ⟨_, List.getElem?_eq_getElem (by omega)⟩
              obtain ⟨a2', c2', e2', _, hx2⟩ := hpb
              cases e2'
              obtain ⟨g, o, ha, hcl⟩ := hx2 k q hq
              have hqn := hQ2.out k q hq
              have HSTEP : Hid (keepR N Q1 (Q2.take (k + 1)) = keepR N Q1 (Q2.take k) ++ if lowerInN N Q1 q true then [] else [q]) := keepR_step hq
              have hlen : (KL ++ keepR N Q1 (Q2.take k)).length < 16 := by rw [List.length_append]; omega
              subst ha
              clear hx2 hq hn htr hpa hli hch
              have HKQ : Hid (∀ M, keepR N Q1 (Q2.take (k + 1)) = keepR N Q1 (Q2.take k) ++ M → KL ++ keepR N Q1 (Q2.take (k + 1)) = (KL ++ keepR N Q1 (Q2.take k)) ++ M) := fun M h => by rw [h, List.append_assoc]
              generalize hKK : KL ++ keepR N Q1 (Q2.take k) = K at *
              clear hKK
              go_wp2_with fail
              refine (lowerIn_any G N nv al X _ Q1 q true wr HTR.out HPA.out hQ1.out hqn (by omega)).mono ?_
              rintro e w5 ⟨rfl, hn5⟩
              have HCH5 : Hid (Chg (fun k => k = C) w4 w5) := HCH.out.new hn5
              have HLI5 : Hid (Listed w5 C K) := HLI.out.new hn5
              clear hn5 hcl
              cases hlow : lowerInN N Q1 q true with
              | true =>
                have HS2 : Hid (KL ++ keepR N Q1 (Q2.take (k + 1)) = K) := by
                  show _ = _
                  rw [HKQ.out [] (by rw [HSTEP.out, hlow]; simp)]; simp
                clear hlow HSTEP
                go_wp2_with fail
                go_roundw
                case rel => exact ⟨k + 1, by go_num, by omega, by rw [HS2.out], by rw [HS2.out]; exact HLI5.out, HCH5.out⟩
                case measure => simp [intOf]; omega
              | false =>
                have HS2 : Hid (KL ++ keepR N Q1 (Q2.take (k + 1)) = K ++ [q]) := by
                  show _ = _
                  exact HKQ.out [q] (by rw [HSTEP.out, hlow]; simp)
                clear hlow HSTEP
                obtain ⟨pl, hrow, _⟩ := HLI5.out
                have hkc := hrow.cell (i := K.length) (by omega)
                have hkf := hrow.frozen K.length
                have HLP : Hid (Listed (w5.setCell ⟨C, K.length, none⟩ (.int .i32 (q : Int))) C (K ++ [q])) := HLI5.out.push (by omega) q
                have HCP : Hid (Chg (fun k => k = C) w4 (w5.setCell ⟨C, K.length, none⟩ (.int .i32 (q : Int)))) := HCH5.out.set (fun _ => rfl) _
                clear hrow
                generalize hkn : K.length = kn at *
                go_wp2_with fail
                go_roundw
                case rel =>
                  refine ⟨k + 1, by go_num, by omega, ?_, by rw [HS2.out]; exact HLP.out, HCP.out⟩
                  rw [HS2.out, List.length_append, hkn]; simp
                case measure => simp [intOf]; omega
            · have hkk2 : k = m2 := by omega
              subst hkk2
              have HK2 : Hid (keepR N Q1 (Q2.take k) = keepR N Q1 Q2) := by show _ = _; rw [List.take_of_length_le (by omega)]
              rw [HK2.out] at HLI hkr
              rw [HK2.out]
              have HNW : Hid (New w wr) := hn
              have HKF : Hid (KL ++ keepR N Q1 Q2 = if (k1 && k2) = true then KL ++ keepR N Q1 Q2 else []) := HKK.out.symm
              have hlen : (KL ++ keepR N Q1 Q2).length ≤ 16 := by rw [List.length_append]; omega
              clear hn htr hpa hpb hli hch
              generalize KL ++ keepR N Q1 Q2 = K at *
              go_wp2_with fail
              go_meet
              exact ⟨K, rfl, hlen, HLI.out, HNW.out, HKF.out⟩
    · have HKK : Hid ((if (k1 && k2) = true then keepL N Q1 Q2 ++ keepR N Q1 Q2 else []) = []) := by show _ = _; rw [if_neg hkk]
      have hkf : (k1 && k2) = false := by simpa using hkk
      rw [hkf]
      clear hkk hkf
      go_wp2_with fail
      go_meet
      exact ⟨[], rfl, by simp, HL.out, HN4.out, HKK.out.symm⟩
  case rest =>
  obtain ⟨K, rfl, hK16, hli, hn, hKK⟩ := hcut
  clear HN1 HN2 HN3 HN4 HP1 HP2' HL
  have HLI : Hid (Listed wc C K) := hli
  have HN : Hid (New w wc) := hn
  have HKE : Hid (K = if (k1 && k2) = true then keepL N Q1 Q2 ++ keepR N Q1 Q2 else []) := hKK
  clear hli hn hKK
  generalize hkn : K.length = kn at *
  go_upto_region 22 with fail
  go_cut [86] (fun s86 wx => s86 = .bool (!(k1 && k2) || decide (8 < kn)) ∧ wc = wx)
  case first => as_aux_lemma =>
    cases k1 <;> cases k2
    all_goals go_wp2_with fail
    all_goals go_meet
    all_goals exact ⟨by first | (simp; done) | (simp; omega), rfl⟩
  case rest =>
  obtain ⟨rfl, rfl⟩ := hcut
  go_upto_if 86 with fail
  go_cut [19, 14] (fun s19 s14 wx => ∃ c m : Nat, s19 = .int .u8 (c : Int) ∧ s14 = .int .i64 (m : Int) ∧ wc = wx ∧ m ≤ 8 ∧ Hid ((c = kn ∧ m = kn ∧ (k1 && k2) = true) ∨ (c = 9 ∧ m = 0 ∧ ((k1 && k2) = true → 8 < kn))))
  case first => as_aux_lemma =>
    by_cases hcond : (!(k1 && k2) || decide (8 < kn)) = true
    · rw [hcond]
      have HF : Hid ((k1 && k2) = true → 8 < kn) := fun h => by rw [h] at hcond; simpa using hcond
      clear hcond
      go_wp2_with fail
      go_meet
      exact ⟨9, 0, rfl, rfl, rfl, by omega, .inr ⟨rfl, rfl, HF.out⟩⟩
    · have hcf : (!(k1 && k2) || decide (8 < kn)) = false := by simpa using hcond
      rw [hcf]
      have HF : Hid ((k1 && k2) = true ∧ kn ≤ 8) := by
        show _ ∧ _
        rw [Bool.or_eq_false_iff] at hcf
        refine ⟨by simpa using hcf.1, ?_⟩
        have := hcf.2
        simp at this
        exact this
      have hk8 := HF.out.2
      clear hcond hcf
      go_wp2_with fail
      go_meet
      exact ⟨kn, kn, by simp, rfl, rfl, hk8, .inl ⟨rfl, rfl, HF.out.1⟩⟩
  case rest =>
  obtain ⟨c, m, rfl, rfl, rfl, hm8, hcm⟩ := hcut
  have HCM : Hid ((c = kn ∧ m = kn ∧ (k1 && k2) = true) ∨ (c = 9 ∧ m = 0 ∧ ((k1 && k2) = true → 8 < kn))) := hcm
  clear hcm
  have HIN : Hid (decide (c ≠ 0) = (rangeIn G mem X (2 * r) || rangeIn G mem X (2 * r + 1))) := by
    show _ = _
    obtain ⟨l1, y1, n1⟩ := HQ1.out
    obtain ⟨l2, y2, n2⟩ := HQ2.out
    have hke := HKE.out
    by_cases hkk : (k1 && k2) = true
    · rw [if_pos hkk] at hke
      obtain ⟨hk1, hk2⟩ := (Bool.and_eq_true _ _).mp hkk
      rw [← y1 hk1, ← y2 hk2]
      by_cases hne : Q1 ≠ [] ∨ Q2 ≠ []
      · have hK := kept_some HT.out.no l1 l2 hne
        rw [← hke] at hK
        have hkn0 : kn ≠ 0 := fun e => hK (List.eq_nil_of_length_eq_zero (by rw [hkn, e]))
        have hc0 : c ≠ 0 := by
          rcases HCM.out with ⟨h, _⟩ | ⟨h, _⟩ <;> omega
        rw [decide_eq_true hc0]
        rcases hne with h | h
        · rw [decide_eq_true h]; rfl
        · rw [decide_eq_true h]; simp
      · have e1 : Q1 = [] := by by_cases h : Q1 = []; exact h; exact absurd (.inl h) hne
        have e2 : Q2 = [] := by by_cases h : Q2 = []; exact h; exact absurd (.inr h) hne
        have hk0 : kn = 0 := by rw [← hkn, hke, e1, e2]; rfl
        have hc0 : c = 0 := by
          rcases HCM.out with ⟨h, _⟩ | ⟨_, _, h⟩
          · omega
          · have := h hkk; omega
        rw [hc0, e1, e2]; rfl
    · have hc9 : c = 9 := by
        rcases HCM.out with ⟨_, _, h⟩ | ⟨h, _⟩
        · exact absurd h hkk
        · exact h
      rw [hc9]
      cases k1 with
      | false => rw [n1 rfl]; simp
      | true =>
        cases k2 with
        | false => rw [n2 rfl]; simp
        | true => exact absurd rfl hkk
  have HTN : Hid (Tree wc.drew G N nv al X) := HT.out.new HN.out.drew
  obtain ⟨pl, hrow, hpl⟩ := HLI.out
  have HPL : Hid ((c = m ∧ ∀ j, j < m → pl j < G.n) ∨ (c = 9 ∧ m = 0)) := by
    show _ ∨ _
    rcases HCM.out with ⟨h1, h2, h3⟩ | ⟨h1, h2, _⟩
    · refine .inl ⟨by omega, fun j hj => ?_⟩
      obtain ⟨q, hq⟩ : ∃ q, K[j]? = some q := ⟨_, List.getElem?_eq_getElem (by omega)⟩
      rw [hpl j q hq]
      have hmem := List.mem_of_getElem? hq
      rw [HKE.out, if_pos h3] at hmem
      rcases List.mem_append.1 hmem with hm | hm
      · exact HQ1.out.1 q (List.mem_filter.1 hm).1
      · exact HQ2.out.1 q (List.mem_filter.1 hm).1
    · exact .inr ⟨h1, h2⟩
  have hGd := HT.out.ok.t
  have HSR : Hid (Calls Yba.prog 24 #[.slice (some ⟨G.GW, 0, none⟩) ((G.size - 1) * 8) ((G.size - 1) * 8), .slice (some ⟨G.GO, 0, none⟩) (G.size - 1) (G.size - 1), .int .i64 8, .int .i64 (r : Int), .slice (some ⟨C, 0, none⟩) m 16, .int .u8 (c : Int)] wc.drew
      fun e w' => RetB e (fun ch => ch = false → X.lo (r - 1) = c) ∧ Tree w' G N nv al (X.setLow (r - 1) c m pl) ∧ Chg (Dt G) wc.drew w') :=
    setRange_any G N nv al X r m c C 16 pl wc.drew HTN.out (hrow.chg (Chg.refl (fun _ => False) wc).drew (fun h => h)) hm8 HPL.out hr1 hr2 (by omega) (by have := HSZ.out; have := HC.out; omega)
  have h5 := (HT.out.new HN.out).tc.c5
  have h6 := (HT.out.new HN.out).tc.c6
  have HEND : Hid (∀ w', Chg (Dt G) wc.drew w' → Chg (Dt G) w w') := fun w' hc => New.then HN.out.drew hc
  have hsl := fun wz => slice85 (C := C) (m := m) (by omega) wz
  clear hrow hpl hGd
  go_upto_region 24 with fail
  go_region_with (go_at_call 24; refine HSR.out.mono ?_; rintro e w7 ⟨⟨b, rfl, hb⟩, htr, hch⟩)
  all_goals go_wp2_with fail
  all_goals go_ret
  all_goals exact ⟨c, m, pl, ⟨_, rfl, by assumption⟩, by assumption, HEND.out _ (by assumption), HIN.out⟩
end Go.Proofs.Ybulkbtdo.U
