/-
  THE MEET OF TWO NEEDS, plain; slices.Equal over amounts.
-/
import Derived.Test.YbulkbtdoUF
namespace Go.Proofs.Ybulkbtdo.U
open Go.RowKit
set_option maxRecDepth 100000
/-! ### the plain meet -/
def lk (M : Am) (d : Nat) : Option (Nat × Nat) := M.find? fun p => p.1 == d
theorem lk_at {L : Am} (hs : Sorted L) {i : Nat} {p : Nat × Nat} (h : L[i]? = some p) : lk L p.1 = some p := by
  unfold lk
  cases e : L.find? (fun q => q.1 == p.1) with
  | none =>
    have := List.find?_eq_none.1 e p (List.mem_of_getElem? h)
    simp at this
  | some q =>
    have h1 : q.1 = p.1 := by simpa using List.find?_some e
    obtain ⟨j, hj⟩ := List.getElem?_of_mem (List.mem_of_find?_eq_some e)
    by_cases e1 : i = j
    · subst e1; rw [h] at hj; cases hj; rfl
    · rcases Nat.lt_or_gt_of_ne e1 with hl | hl
      · have := hs i j p q hl h hj; omega
      · have := hs j i q p hl hj h; omega
theorem lk_no {L : Am} {d : Nat} (h : ∀ (i : Nat) (p : Nat × Nat), L[i]? = some p → p.1 ≠ d) : lk L d = none := by
  refine List.find?_eq_none.2 fun p hp => ?_
  obtain ⟨i, hi⟩ := List.getElem?_of_mem hp
  have := h i p hi
  simpa using this
theorem lk_key {L : Am} {d : Nat} {y : Nat × Nat} (h : lk L d = some y) : y.1 = d ∧ y ∈ L := ⟨by simpa using List.find?_some h, List.mem_of_find?_eq_some h⟩
def mt (M : Am) (x : Nat × Nat) : Option (Nat × Nat) := (lk M x.1).map fun y => (x.1, min x.2 y.2)
def meetP (L M : Am) : Am := L.filterMap (mt M)
theorem meetP_take {L M : Am} {i : Nat} {p : Nat × Nat} (h : L[i]? = some p) : meetP (L.take (i + 1)) M = meetP (L.take i) M ++ (mt M p).toList := by
  unfold meetP
  rw [List.take_add_one, h, List.filterMap_append]
  congr 1
theorem meetP_len (L M : Am) : (meetP L M).length ≤ L.length := List.length_filterMap_le _ _
theorem lk_meet (L M : Am) (d : Nat) : lk (meetP L M) d = (lk L d).bind (mt M) := by
  induction L with
  | nil => rfl
  | cons x L ih =>
    unfold meetP at ih ⊢
    unfold lk at ih ⊢
    by_cases hx : x.1 = d
    · cases e : mt M x with
      | none =>
        rw [List.filterMap_cons_none e, ih]
        have e2 : ∀ q, (List.find? (fun p => p.1 == d) L).bind (mt M) = some q → False := fun q hq => by
          obtain ⟨y, hy, hyq⟩ := Option.bind_eq_some_iff.1 hq
          have hyk : y.1 = d := by simpa using List.find?_some hy
          unfold mt at e hyq
          rw [hx] at e
          rw [hyk] at hyq
          cases e3 : lk M d with
          | none => rw [e3] at hyq; cases hyq
          | some z => rw [e3] at e; cases e
        rw [List.find?_cons_of_pos (by simp [hx])]
        show _ = mt M x
        rw [e]
        cases h : (List.find? (fun p => p.1 == d) L).bind (mt M) with
        | none => rfl
        | some q => exact (e2 q h).elim
      | some z =>
        have hz : z.1 = d := by
          unfold mt at e
          obtain ⟨y, _, rfl⟩ := Option.map_eq_some_iff.1 e
          exact hx
        rw [List.filterMap_cons_some e, List.find?_cons_of_pos (by simp [hz]), List.find?_cons_of_pos (by simp [hx])]
        exact e.symm
    · have hn : ∀ z, mt M x = some z → z.1 ≠ d := fun z hz => by
        unfold mt at hz
        obtain ⟨y, _, rfl⟩ := Option.map_eq_some_iff.1 hz
        exact hx
      rw [List.find?_cons_of_neg (by simp [hx])]
      cases e : mt M x with
      | none => rw [List.filterMap_cons_none e]; exact ih
      | some z => rw [List.filterMap_cons_some e, List.find?_cons_of_neg (by simp [hn z e])]; exact ih
theorem meetP_assoc (A B C : Am) : meetP (meetP A B) C = meetP A (meetP B C) := by
  show (A.filterMap (mt B)).filterMap (mt C) = A.filterMap (mt (meetP B C))
  rw [List.filterMap_filterMap]
  congr 1
  funext x
  unfold mt
  rw [lk_meet]
  unfold mt
  cases e1 : lk B x.1 with
  | none => rfl
  | some y =>
    have hy := (lk_key e1).1
    show ((lk C x.1).map fun z => (x.1, min (min x.2 y.2) z.2)) = (((lk C y.1).map fun z => (y.1, min y.2 z.2)).map fun z => (x.1, min x.2 z.2))
    rw [hy]
    cases lk C x.1 with
    | none => rfl
    | some z => simp [Nat.min_assoc]
theorem mem_get {L : Am} {p : Nat × Nat} (h : p ∈ L) : ∃ i : Nat, L[i]? = some p := List.getElem?_of_mem h
theorem sorted_iff {L : Am} : Sorted L ↔ L.Pairwise (fun p q => p.1 < q.1) := by
  rw [List.pairwise_iff_getElem]
  constructor
  · intro h i j hi hj hij
    exact h i j _ _ hij (List.getElem?_eq_getElem hi) (List.getElem?_eq_getElem hj)
  · intro h i j p q hij hp hq
    obtain ⟨hi, rfl⟩ := List.getElem?_eq_some_iff.1 hp
    obtain ⟨hj, rfl⟩ := List.getElem?_eq_some_iff.1 hq
    exact h i j hi hj hij
theorem meetP_ok {L M : Am} (hL : AmOk L) (hM : AmOk M) : AmOk (meetP L M) := by
  refine ⟨?_, fun i p hp => ?_, Nat.le_trans (meetP_len L M) hL.l⟩
  · rw [sorted_iff]
    refine List.Pairwise.filterMap _ ?_ (sorted_iff.1 hL.s)
    intro a a' haa b hb b' hb'
    unfold mt at hb hb'
    obtain ⟨y, _, rfl⟩ := Option.map_eq_some_iff.1 hb
    obtain ⟨y', _, rfl⟩ := Option.map_eq_some_iff.1 hb'
    exact haa
  · have hm := List.mem_of_getElem? hp
    obtain ⟨x, hx, e⟩ := List.mem_filterMap.1 hm
    unfold mt at e
    obtain ⟨y, hy, rfl⟩ := Option.map_eq_some_iff.1 e
    obtain ⟨j, hj⟩ := mem_get hx
    obtain ⟨k, hk⟩ := mem_get (lk_key hy).2
    have := hL.p j x hj
    have := hM.p k y hk
    show 1 ≤ min x.2 y.2
    omega
theorem neq73 (p1 p2 q1 q2 : Int) (w : World) : (binOp .neq 73 (.agg #[.int .i64 p1, .int .i64 p2]) (.agg #[.int .i64 q1, .int .i64 q2])).run Yba.prog w = .ok (.bool (!(p1 == q1 && p2 == q2))) w := by
  by_cases h1 : p1 = q1
  · subst h1
    by_cases h2 : p2 = q2
    · subst h2
      simp [go_sem, Yba.underlying73]
    · simp [go_sem, Yba.underlying73, h2]
  · simp [go_sem, Yba.underlying73, h1]
theorem neq73_ne {p q : Nat × Nat} (h : p ≠ q) (w : World) : (binOp .neq 73 (.agg #[.int .i64 (p.1 : Int), .int .i64 (p.2 : Int)]) (.agg #[.int .i64 (q.1 : Int), .int .i64 (q.2 : Int)])).run Yba.prog w = .ok (.bool true) w := by
  rw [neq73]
  congr 2
  obtain ⟨p1, p2⟩ := p
  obtain ⟨q1, q2⟩ := q
  by_cases h1 : p1 = q1
  · by_cases h2 : p2 = q2
    · exact absurd (by rw [h1, h2]) h
    · have : ((p2 : Int) == (q2 : Int)) = false := by simp; omega
      simp [this]
  · have : ((p1 : Int) == (q1 : Int)) = false := by simp; omega
    simp [this]
theorem neq73_eq (p : Nat × Nat) (w : World) : (binOp .neq 73 (.agg #[.int .i64 (p.1 : Int), .int .i64 (p.2 : Int)]) (.agg #[.int .i64 (p.1 : Int), .int .i64 (p.2 : Int)])).run Yba.prog w = .ok (.bool false) w := by
  rw [neq73]
  simp
set_option maxHeartbeats 1000000 in
theorem equalAm_any (v u : Value) (A B : Am) (w : World) (h : AmV w v A) (h' : AmV w u B) (hl : A.length ≤ 1000) :
    Calls Yba.prog 19 #[v, u] w fun e w' => e = .returned (.bool (decide (A = B))) ∧ New w w' := by
  obtain ⟨a, c, rfl, hc, hx⟩ := h
  obtain ⟨a', c', rfl, hc', hx'⟩ := h'
  have HX : Hid (∀ (i : Nat) (p : Nat × Nat), A[i]? = some p → ∃ g, a = some ⟨g, 0, none⟩ ∧ w.cell? ⟨g, i * 2, none⟩ = some (.int .i64 (p.1 : Int)) ∧ w.cell? ⟨g, i * 2 + 1, none⟩ = some (.int .i64 (p.2 : Int))) := hx
  have HY : Hid (∀ (i : Nat) (p : Nat × Nat), B[i]? = some p → ∃ g, a' = some ⟨g, 0, none⟩ ∧ w.cell? ⟨g, i * 2, none⟩ = some (.int .i64 (p.1 : Int)) ∧ w.cell? ⟨g, i * 2 + 1, none⟩ = some (.int .i64 (p.2 : Int))) := hx'
  clear hx hx'
  by_cases hnn : A.length = B.length
  · rw [← hnn]
    have hBn : Hid (B.length = A.length) := hnn.symm
    rw [← hnn] at hc'
    clear hnn
    generalize hn : A.length = n at *
    go_enter Yba.func19, Yba.ntmps19
    go_wp2_with fail
    go_loopw [13] (fun s13 wr => ∃ i : Nat, s13 = .int .i64 (i : Int) ∧ i ≤ n ∧ New w wr ∧ (∀ k, k < i → A[k]? = B[k]?)) (fun s13 _ => n - (intOf s13).toNat)
    case atStart => exact ⟨0, rfl, Nat.zero_le _, Chg.refl _ _, fun k hk => by omega⟩
    case round =>
      obtain ⟨i, rfl, hin, hb, hlo⟩ := hrel
      have HB : Hid (New w wr) := hb
      have HLO : Hid (∀ k, k < i → A[k]? = B[k]?) := hlo
      clear hb hlo
      by_cases hlt : i < n
      · obtain ⟨p, hp⟩ := get_lt (L := A) (i := i) (by omega)
        obtain ⟨q, hq⟩ := get_lt (L := B) (i := i) (by have := hBn.out; omega)
        obtain ⟨g, ha, hc1, hc2⟩ := HX.out _ p hp
        obtain ⟨g', ha', hc3, hc4⟩ := HY.out _ q hq
        have hc1' := HB.out.cell hc1 (fun h => h)
        have hc2' := HB.out.cell hc2 (fun h => h)
        have hc3' := HB.out.cell hc3 (fun h => h)
        have hc4' := HB.out.cell hc4 (fun h => h)
        have HP : Hid (A[i]? = some p) := hp
        have HQ : Hid (B[i]? = some q) := hq
        subst ha
        subst ha'
        clear hp hq hc1 hc2 hc3 hc4
        have HB2 : Hid (New w wr.drew) := HB.out.drew
        by_cases hpq : p = q
        · subst hpq
          have hneq := fun wz => neq73_eq p wz
          go_wp2_with fail
          go_region
          go_wp2_with fail
          go_roundw
          case rel =>
            refine ⟨i + 1, by go_num, by omega, HB2.out, fun k hk => ?_⟩
            by_cases e : k = i
            · subst e; rw [HP.out, HQ.out]
            · exact HLO.out k (by omega)
          case measure => simp [intOf]; omega
        · have hneq := fun wz => neq73_ne hpq wz
          have HNE : Hid (decide (A = B) = false) := decide_eq_false fun e => hpq (by
            have h1 := HP.out
            rw [e, HQ.out] at h1
            cases h1; rfl)
          go_wp2_with fail
          go_region
          go_wp2_with fail
          go_ret
          exact ⟨by rw [HNE.out]; rfl, HB2.out⟩
      · have HEQ : Hid (decide (A = B) = true) := decide_eq_true (List.ext_getElem? fun k => by
          by_cases hk : k < n
          · exact HLO.out k (by omega)
          · rw [List.getElem?_eq_none (by omega), List.getElem?_eq_none (by have := hBn.out; omega)])
        go_wp2_with fail
        go_ret
        exact ⟨by rw [HEQ.out]; rfl, HB.out⟩
  · have hnl : A.length ≠ B.length := hnn
    have t1 : ((A.length : Int) != (B.length : Int)) = true := by simp; omega
    have HNE : Hid (decide (A = B) = false) := decide_eq_false fun e => hnn (by rw [e])
    clear hnn
    generalize A.length = n at *
    generalize B.length = n' at *
    go_enter Yba.func19, Yba.ntmps19
    go_wp2_with fail
    go_ret
    exact ⟨by rw [HNE.out]; rfl, Chg.refl _ _⟩
end Go.Proofs.Ybulkbtdo.U
