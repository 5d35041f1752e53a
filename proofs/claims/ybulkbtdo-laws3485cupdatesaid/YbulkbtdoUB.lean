/-
  WHAT A NEED ASKS OF A RESOURCE: cmp.Compare, slices.BinarySearchFunc, amounts.of, atMost.
-/
import Derived.Test.YbulkbtdoUA
import Derived.Deep.RegionWith
namespace Go.Proofs.Ybulkbtdo.U
open Go.RowKit
set_option maxRecDepth 100000
theorem isNaN_any (a : Int) (w : World) : Calls Yba.prog 33 #[.int .i64 a] w fun e w' => e = .returned (.bool false) ∧ w' = w := by
  go_enter Yba.func33, Yba.ntmps33
  go_wp2
  go_ret
  exact ⟨by simp, rfl⟩
def cmpN (a b : Int) : Int := if a < b then -1 else if b < a then 1 else 0
theorem compare_any (a b : Int) (w : World) : Calls Yba.prog 32 #[.int .i64 a, .int .i64 b] w fun e w' => e = .returned (.int .i64 (cmpN a b)) ∧ w' = w := by
  go_enter Yba.func32, Yba.ntmps32
  go_wp2_with fail
  refine (isNaN_any _ _).mono ?_
  rintro e w' ⟨rfl, rfl⟩
  go_wp2_with fail
  refine (isNaN_any _ _).mono ?_
  rintro e w' ⟨rfl, rfl⟩
  by_cases h1 : a < b
  · go_wp2_with fail
    go_ret
    exact ⟨by simp [cmpN, h1], rfl⟩
  · by_cases h2 : b < a
    · go_wp2_with fail
      go_ret
      exact ⟨by simp [cmpN, h1, h2], rfl⟩
    · have e : cmpN a b = 0 := by unfold cmpN; rw [if_neg h1, if_neg h2]
      go_wp2_with fail
      go_ret
      exact ⟨by rw [e]; rfl, rfl⟩
theorem of1_any (x y d : Int) (w : World) : Calls Yba.prog 31 #[.agg #[.int .i64 x, .int .i64 y], .int .i64 d] w fun e w' => e = .returned (.int .i64 (cmpN x d)) ∧ Below w.heap.size w w' := by
  go_enter Yba.func31, Yba.ntmps31
  go_wp2_with fail
  refine (compare_any _ _ _).mono ?_
  rintro e w' ⟨rfl, rfl⟩
  go_wp2_with fail
  go_ret
  exact ⟨rfl, (Below.refl _ _).alloc (Nat.le_refl _) _⟩
/-- places in increasing order -/
def Sorted (L : Am) : Prop := ∀ (i j : Nat) (p q : Nat × Nat), i < j → L[i]? = some p → L[j]? = some q → p.1 < q.1
def ofN (L : Am) (d : Nat) : Nat := match L.find? (fun p => p.1 == d) with | some p => p.2 | none => 0
theorem ofN_at {L : Am} (hs : Sorted L) {i : Nat} {p : Nat × Nat} (h : L[i]? = some p) : ofN L p.1 = p.2 := by
  unfold ofN
  cases e : L.find? (fun q => q.1 == p.1) with
  | none =>
    have := List.find?_eq_none.1 e p (List.mem_of_getElem? h)
    simp at this
  | some q =>
    have h1 : q.1 = p.1 := by simpa using List.find?_some e
    obtain ⟨j, hj⟩ := List.getElem?_of_mem (List.mem_of_find?_eq_some e)
    show q.2 = p.2
    by_cases e1 : i = j
    · subst e1; rw [h] at hj; cases hj; rfl
    · rcases Nat.lt_or_gt_of_ne e1 with hl | hl
      · have := hs i j p q hl h hj; omega
      · have := hs j i q p hl hj h; omega
theorem ofN_no {L : Am} {d : Nat} (h : ∀ (i : Nat) (p : Nat × Nat), L[i]? = some p → p.1 ≠ d) : ofN L d = 0 := by
  unfold ofN
  cases e : L.find? (fun q => q.1 == d) with
  | none => rfl
  | some q =>
    have h1 : q.1 = d := by simpa using List.find?_some e
    obtain ⟨j, hj⟩ := List.getElem?_of_mem (List.mem_of_find?_eq_some e)
    exact absurd h1 (h j q hj)
theorem get_lt {L : Am} {i : Nat} (h : i < L.length) : ∃ p, L[i]? = some p := ⟨_, List.getElem?_eq_getElem h⟩
set_option maxHeartbeats 1000000 in
theorem bsf_any (v : Value) (L : Am) (d : Nat) (w : World) (h : AmV w v L) (hs : Sorted L) (hl : L.length ≤ 1000) :
    Calls Yba.prog 30 #[v, .int .i64 (d : Int), .func (.func 31) #[] #[]] w fun e w' => Below w.heap.size w w' ∧ ∃ (i : Nat) (b : Bool), e = .returned (.tuple #[.int .i64 (i : Int), .bool b]) ∧ (b = true → ∃ p, L[i]? = some p ∧ p.1 = d) ∧ (b = false → ∀ (j : Nat) (p : Nat × Nat), L[j]? = some p → p.1 ≠ d) := by
  obtain ⟨a, c, rfl, hc, hx⟩ := h
  have HX : Hid (∀ (i : Nat) (p : Nat × Nat), L[i]? = some p → ∃ g, a = some ⟨g, 0, none⟩ ∧ w.cell? ⟨g, i * 2, none⟩ = some (.int .i64 (p.1 : Int)) ∧ w.cell? ⟨g, i * 2 + 1, none⟩ = some (.int .i64 (p.2 : Int))) := hx
  have HS : Hid (Sorted L) := hs
  clear hx hs
  generalize hn : L.length = n at *
  go_enter Yba.func30, Yba.ntmps30
  go_wp2
  go_loopw [9, 10] (fun s9 s10 wr => ∃ i j : Nat, s9 = .int .i64 (i : Int) ∧ s10 = .int .i64 (j : Int) ∧ i ≤ j ∧ j ≤ n ∧ Below w.heap.size w wr ∧ (∀ (k : Nat) (p : Nat × Nat), k < i → L[k]? = some p → p.1 < d) ∧ (∀ (k : Nat) (p : Nat × Nat), j ≤ k → L[k]? = some p → d ≤ p.1)) (fun s9 s10 _ => (intOf s10).toNat - (intOf s9).toNat)
  case atStart => exact ⟨0, n, rfl, rfl, Nat.zero_le _, Nat.le_refl _, Below.refl _ _, fun k p hk => by omega, fun k p hk hp => by rw [List.getElem?_eq_none (by omega)] at hp; cases hp⟩
  case round =>
    obtain ⟨i, j, rfl, rfl, hij, hjn, hb, hlo, hhi⟩ := hrel
    have HLO : Hid (∀ (k : Nat) (p : Nat × Nat), k < i → L[k]? = some p → p.1 < d) := hlo
    have HHI : Hid (∀ (k : Nat) (p : Nat × Nat), j ≤ k → L[k]? = some p → d ≤ p.1) := hhi
    clear hlo hhi
    by_cases hlt : i < j
    · obtain ⟨p, hp⟩ := get_lt (L := L) (i := (i + j) / 2) (by omega)
      obtain ⟨g, ha, hc1, hc2⟩ := HX.out _ p hp
      have hc1' := cell_later hb hc1
      have hc2' := cell_later hb hc2
      have HP : Hid (L[(i + j) / 2]? = some p) := hp
      subst ha
      clear hp hc1 hc2
      go_wp2_with fail
      refine (of1_any _ _ _ _).mono ?_
      rintro e w2 ⟨rfl, hb2⟩
      have hb3 : Below w.heap.size w w2 := hb.trans (hb2.mono hb.size)
      clear hc1' hc2' hb2 hb
      by_cases hcl : p.1 < d
      · have ec : cmpN (p.1 : Int) (d : Int) = -1 := by unfold cmpN; rw [if_pos (by omega)]
        rw [ec]
        clear ec
        go_wp2_with fail
        go_roundw
        case rel => 
          refine ⟨(i + j) / 2 + 1, j, by go_num, rfl, by omega, hjn, hb3, fun k q hk hq => ?_, HHI.out⟩
          by_cases e : k = (i + j) / 2
          · subst e; rw [HP.out] at hq; cases hq; exact hcl
          · have := HS.out k _ q p (by omega) hq HP.out; omega
        case measure => simp [intOf]; omega
      · have ec : cmpN (p.1 : Int) (d : Int) = if d < p.1 then 1 else 0 := by
          unfold cmpN; rw [if_neg (by omega)]
          by_cases e : d < p.1
          · rw [if_pos e, if_pos (by omega)]
          · rw [if_neg e, if_neg (by omega)]
        have ec2 : (0 : Int) ≤ cmpN (p.1 : Int) (d : Int) := by rw [ec]; split <;> omega
        generalize cmpN (p.1 : Int) (d : Int) = cc at *
        clear ec
        have tcc : decide (cc < 0) = false := decide_eq_false (by omega)
        go_wp2_with fail
        go_roundw
        case rel => 
          refine ⟨i, (i + j) / 2, rfl, by go_num, by omega, by omega, hb3, HLO.out, fun k q hk hq => ?_⟩
          by_cases e : k = (i + j) / 2
          · subst e; rw [HP.out] at hq; cases hq; omega
          · have := HS.out _ k p q (by omega) HP.out hq; omega
        case measure => simp [intOf]; omega
    · have hii : i = j := by omega
      subst hii
      by_cases hin : i < n
      · obtain ⟨p, hp⟩ := get_lt (L := L) (i := i) (by omega)
        obtain ⟨g, ha, hc1, hc2⟩ := HX.out _ p hp
        have hc1' := cell_later hb hc1
        have hc2' := cell_later hb hc2
        have HP : Hid (L[i]? = some p) := hp
        subst ha
        clear hp hc1 hc2
        go_wp2_with fail
        refine (of1_any _ _ _ _).mono ?_
        rintro e w2 ⟨rfl, hb2⟩
        have hb3 : Below w.heap.size w w2 := hb.trans (hb2.mono hb.size)
        clear hc1' hc2' hb2 hb
        go_wp2_with fail
        go_ret2
        refine ⟨hb3, i, _, rfl, fun h => ⟨p, HP.out, ?_⟩, fun h k q hq => ?_⟩
        · unfold cmpN at h
          split at h
          · simp at h
          · split at h
            · simp at h
            · omega
        · intro e
          have h1 : p.1 = d := by
            by_cases e1 : k < i
            · have := HLO.out k q e1 hq; omega
            · by_cases e2 : k = i
              · subst e2; rw [HP.out] at hq; cases hq; exact e
              · have := HS.out i k p q (by omega) HP.out hq
                have := HHI.out i p (Nat.le_refl _) HP.out
                omega
          unfold cmpN at h
          rw [if_neg (by omega), if_neg (by omega)] at h
          simp at h
      · go_wp2_with fail
        go_ret2
        refine ⟨hb, i, _, rfl, fun h => by simp at h, fun _ k q hq => ?_⟩
        have hk : k < L.length := (List.getElem?_eq_some_iff.1 hq).1
        have := HLO.out k q (by omega) hq
        omega
set_option maxHeartbeats 1000000 in
theorem of_any (v : Value) (L : Am) (d : Nat) (w : World) (h : AmV w v L) (hs : Sorted L) (hl : L.length ≤ 1000) :
    Calls Yba.prog 29 #[v, .int .i64 (d : Int)] w fun e w' => e = .returned (.int .i64 (ofN L d : Int)) ∧ Below w.heap.size w w' := by
  have HV : Hid (AmV w v L) := h
  obtain ⟨a, c, rfl, hc, hx⟩ := h
  have HX : Hid (∀ (i : Nat) (p : Nat × Nat), L[i]? = some p → ∃ g, a = some ⟨g, 0, none⟩ ∧ w.cell? ⟨g, i * 2, none⟩ = some (.int .i64 (p.1 : Int)) ∧ w.cell? ⟨g, i * 2 + 1, none⟩ = some (.int .i64 (p.2 : Int))) := hx
  have HS : Hid (Sorted L) := hs
  clear hx hs
  by_cases hbig : 16 < L.length
  · go_enter Yba.func29, Yba.ntmps29
    go_wp2_with fail
    refine (bsf_any _ L d w HV.out HS.out hl).mono ?_
    rintro e w1 ⟨hb, i, b, rfl, ht, hf⟩
    cases b with
    | true =>
      obtain ⟨p, hp, hpd⟩ := ht rfl
      obtain ⟨g, ha, hc1, hc2⟩ := HX.out _ p hp
      have hc1' := cell_later hb hc1
      have hc2' := cell_later hb hc2
      have hil : i < L.length := (List.getElem?_eq_some_iff.1 hp).1
      have hof : ofN L d = p.2 := by rw [← hpd]; exact ofN_at HS.out hp
      have HOF : Hid (ofN L d = p.2) := hof
      subst ha
      clear hof hp hpd ht hf hc1 hc2 HX HV HS
      generalize L.length = n at *
      go_wp2_with fail
      go_ret
      exact ⟨by rw [HOF.out]; rfl, hb⟩
    | false =>
      have HOF : Hid (ofN L d = 0) := ofN_no (hf rfl)
      clear ht hf HX HV HS
      go_wp2_with fail
      go_ret
      exact ⟨by rw [HOF.out]; rfl, hb⟩
  · have tb : decide ((16 : Int) < (L.length : Int)) = false := decide_eq_false (by omega)
    have tb' : decide (16 < L.length) = false := decide_eq_false (by omega)
    clear HV
    generalize hn : L.length = n at *
    go_enter Yba.func29, Yba.ntmps29
    go_wp2_with fail
    go_loopw [26] (fun s26 wr => ∃ i : Nat, s26 = .int .i64 (i : Int) ∧ i ≤ n ∧ Below w.heap.size w wr ∧ (∀ (k : Nat) (p : Nat × Nat), k < i → L[k]? = some p → p.1 < d)) (fun s26 _ => n - (intOf s26).toNat)
    case atStart => exact ⟨0, rfl, Nat.zero_le _, Below.refl _ _, fun k p hk => by omega⟩
    case round =>
      obtain ⟨i, rfl, hin, hb, hlo⟩ := hrel
      have HLO : Hid (∀ (k : Nat) (p : Nat × Nat), k < i → L[k]? = some p → p.1 < d) := hlo
      clear hlo
      by_cases hlt : i < n
      · obtain ⟨p, hp⟩ := get_lt (L := L) (i := i) (by omega)
        obtain ⟨g, ha, hc1, hc2⟩ := HX.out _ p hp
        have hc1' := cell_later hb hc1
        have hc2' := cell_later hb hc2
        have HP : Hid (L[i]? = some p) := hp
        subst ha
        clear hp hc1 hc2
        have hb2 : Below w.heap.size w (wr.alloc (.cells #[.int .i64 (p.1 : Int), .int .i64 (p.2 : Int)] 73)) := hb.alloc hb.size _
        by_cases h1 : p.1 = d
        · subst h1
          have HOF : Hid (ofN L p.1 = p.2) := ofN_at HS.out HP.out
          go_wp2_with fail
          go_ret
          exact ⟨by rw [HOF.out]; rfl, hb2⟩
        · have t1 : ((p.1 : Int) == (d : Int)) = false := by simp; omega
          have t1' : decide (p.1 = d) = false := decide_eq_false h1
          by_cases h2 : d < p.1
          · have hof : ofN L d = 0 := ofN_no (fun k q hq => by
              by_cases e1 : k < i
              · have := HLO.out k q e1 hq; omega
              · by_cases e2 : k = i
                · subst e2; rw [HP.out] at hq; cases hq; omega
                · have := HS.out i k p q (by omega) HP.out hq; omega)
            have HOF : Hid (ofN L d = 0) := hof
            clear hof
            go_wp2_with fail
            go_ret
            exact ⟨by rw [HOF.out]; rfl, hb2⟩
          · have t2 : decide ((d : Int) < (p.1 : Int)) = false := decide_eq_false (by omega)
            have t2' : decide (d < p.1) = false := decide_eq_false h2
            go_wp2_with fail
            go_roundw
            case rel =>
              refine ⟨i + 1, by go_num, by omega, hb2, fun k q hk hq => ?_⟩
              by_cases e : k = i
              · subst e; rw [HP.out] at hq; cases hq; omega
              · exact HLO.out k q (by omega) hq
            case measure => simp [intOf]; omega
      · have hii : i = n := by omega
        subst hii
        have hof : ofN L d = 0 := ofN_no (fun k q hq => by
          have hk : k < L.length := (List.getElem?_eq_some_iff.1 hq).1
          have := HLO.out k q (by omega) hq
          omega)
        have HOF : Hid (ofN L d = 0) := hof
        clear hof
        go_wp2_with fail
        go_ret
        exact ⟨by rw [HOF.out]; rfl, hb⟩
/-- a asks for no more than b -/
def atMostN (a b : Am) : Bool := a.all fun x => decide (x.2 ≤ ofN b x.1)
theorem atMostN_iff {a b : Am} : atMostN a b = true ↔ ∀ (i : Nat) (p : Nat × Nat), a[i]? = some p → p.2 ≤ ofN b p.1 := by
  unfold atMostN
  rw [List.all_eq_true]
  constructor
  · intro h i p hp
    simpa using h p (List.mem_of_getElem? hp)
  · intro h p hp
    obtain ⟨i, hi⟩ := List.getElem?_of_mem hp
    simpa using h i p hi
set_option maxHeartbeats 1000000 in
theorem atMost_any (v u : Value) (A B : Am) (w : World) (h : AmV w v A) (h' : AmV w u B) (hs : Sorted B) (hl : A.length ≤ 1000) (hl' : B.length ≤ 1000) :
    Calls Yba.prog 27 #[v, u] w fun e w' => e = .returned (.bool (atMostN A B)) ∧ Below w.heap.size w w' := by
  have HU : Hid (AmV w u B) := h'
  obtain ⟨a, c, rfl, hc, hx⟩ := h
  have HX : Hid (∀ (i : Nat) (p : Nat × Nat), A[i]? = some p → ∃ g, a = some ⟨g, 0, none⟩ ∧ w.cell? ⟨g, i * 2, none⟩ = some (.int .i64 (p.1 : Int)) ∧ w.cell? ⟨g, i * 2 + 1, none⟩ = some (.int .i64 (p.2 : Int))) := hx
  have HS : Hid (Sorted B) := hs
  clear hx hs h'
  generalize hn : A.length = n at *
  go_enter Yba.func27, Yba.ntmps27
  go_wp2_with fail
  go_loopw [9] (fun s9 wr => ∃ i : Nat, s9 = .int .i64 (i : Int) ∧ i ≤ n ∧ Below w.heap.size w wr ∧ (∀ (k : Nat) (p : Nat × Nat), k < i → A[k]? = some p → p.2 ≤ ofN B p.1)) (fun s9 _ => n - (intOf s9).toNat)
  case atStart => exact ⟨0, rfl, Nat.zero_le _, Below.refl _ _, fun k p hk => by omega⟩
  case round =>
    obtain ⟨i, rfl, hin, hb, hlo⟩ := hrel
    have HLO : Hid (∀ (k : Nat) (p : Nat × Nat), k < i → A[k]? = some p → p.2 ≤ ofN B p.1) := hlo
    clear hlo
    by_cases hlt : i < n
    · obtain ⟨p, hp⟩ := get_lt (L := A) (i := i) (by omega)
      obtain ⟨g, ha, hc1, hc2⟩ := HX.out _ p hp
      have hc1' := cell_later hb hc1
      have hc2' := cell_later hb hc2
      have HP : Hid (A[i]? = some p) := hp
      subst ha
      clear hp hc1 hc2
      have hb2 : Below w.heap.size w (wr.alloc (.cells #[.int .i64 (p.1 : Int), .int .i64 (p.2 : Int)] 73)) := hb.alloc hb.size _
      have hd0 : (wr.alloc (.cells #[.int .i64 (p.1 : Int), .int .i64 (p.2 : Int)] 73)).cell? ⟨wr.heap.size, 0, none⟩ = some (.int .i64 (p.1 : Int)) := by simp [go_sem]
      have hd1 : (wr.alloc (.cells #[.int .i64 (p.1 : Int), .int .i64 (p.2 : Int)] 73)).cell? ⟨wr.heap.size, 1, none⟩ = some (.int .i64 (p.2 : Int)) := by simp [go_sem]
      have hU := HU.out.new (New.of_below hb2)
      have HU2 : Hid (AmV (wr.alloc (.cells #[.int .i64 (p.1 : Int), .int .i64 (p.2 : Int)] 73)) u B) := HU.out.new (New.of_below hb2)
      clear hU
      go_upto_region 4 with fail
      generalize hwq : wr.alloc (.cells #[.int .i64 (p.1 : Int), .int .i64 (p.2 : Int)] 73) = wq at *
      clear hwq hc1' hc2'
      go_cut [19] (fun s19 wx => s19 = .bool (decide (ofN B p.1 < p.2)) ∧ Below wq.heap.size wq wx)
      case first =>
        have HU3 : Hid (AmV wq.drew u B) := HU2.out.new (Chg.refl _ wq).drew
        have hk : ∀ w2, Below wq.drew.heap.size wq.drew w2 → w2.cell? ⟨wr.heap.size, 0, none⟩ = some (.int .i64 (p.1 : Int)) ∧ w2.cell? ⟨wr.heap.size, 1, none⟩ = some (.int .i64 (p.2 : Int)) ∧ Below wq.heap.size wq w2 := fun w2 hb3 => ⟨cell_later (below_of_drew hb3) hd0, cell_later (below_of_drew hb3) hd1, below_of_drew hb3⟩
        go_region_with (go_at_call 29; refine (of_any u B p.1 wq.drew HU3.out HS.out hl').mono ?_; rintro e w2 ⟨rfl, hb3⟩; obtain ⟨hd0', hd1', hb4⟩ := hk w2 hb3; clear hb3)
        all_goals go_wp2_with fail
        all_goals go_meet
        all_goals exact ⟨rfl, by assumption⟩
      case rest =>
      obtain ⟨rfl, hb3⟩ := hcut
      have hb4 : Below w.heap.size w wc := hb2.trans (hb3.mono hb2.size)
      clear hb3 hd0 hd1 HU2
      by_cases hle : ofN B p.1 < p.2
      · have t1 : decide (ofN B p.1 < p.2) = true := decide_eq_true hle
        go_wp2_with fail
        go_ret
        refine ⟨?_, hb4⟩
        have : atMostN A B = false := by
          rw [← Bool.not_eq_true, atMostN_iff]
          intro h
          have := h i p HP.out
          omega
        rw [this]; rfl
      · have t1 : decide (ofN B p.1 < p.2) = false := decide_eq_false hle
        go_wp2_with fail
        go_roundw
        case rel =>
          refine ⟨i + 1, by go_num, by omega, hb4, fun k q hk hq => ?_⟩
          by_cases e : k = i
          · subst e; rw [HP.out] at hq; cases hq; omega
          · exact HLO.out k q (by omega) hq
        case measure => simp [intOf]; omega
    · have hii : i = n := by omega
      subst hii
      go_wp2_with fail
      go_ret
      refine ⟨?_, hb⟩
      have : atMostN A B = true := atMostN_iff.2 (fun k p hp => HLO.out k p (by have := (List.getElem?_eq_some_iff.1 hp).1; omega) hp)
      rw [this]; rfl
end Go.Proofs.Ybulkbtdo.U
