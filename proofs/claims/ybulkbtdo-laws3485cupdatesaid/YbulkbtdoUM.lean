/-
  fits; the law's own meet.
-/
import Derived.Test.YbulkbtdoUL
namespace Go.Proofs.Ybulkbtdo.U
open Go.RowKit
set_option maxRecDepth 100000
/-- [][]uint16 as it came in -/
def RawAt (w : World) (a : Option Addr) (n : Nat) (ra : Nat → Option Addr) (rl rc : Nat → Nat) : Prop :=
  ∀ i, i < n → ∃ g o, a = some ⟨g, o, none⟩ ∧ w.cell? ⟨g, o + i, none⟩ = some (.slice (ra i) (rl i) (rc i))
set_option maxHeartbeats 1000000 in
theorem fits_any (a : Option Addr) (n c : Nat) (ra : Nat → Option Addr) (rl rc : Nat → Nat) (w : World) (h : RawAt w a n ra rl rc) (hn : n ≤ 9223372036854775807) (hr : ∀ i, i < n → rl i ≤ 9223372036854775807) :
    Calls Yba.prog 7 #[.slice a n c, .int .i64 (n : Int)] w fun e w' => w' = w ∧ RetB e (fun b => b = true → n ≤ 256 ∧ ∀ i, i < n → rl i ≤ 256) := by
  have H : Hid (RawAt w a n ra rl rc) := h
  have HR : Hid (∀ i, i < n → rl i ≤ 9223372036854775807) := hr
  clear h hr
  by_cases h256 : 256 < n
  · go_enter Yba.func7, Yba.ntmps7
    go_wp2_with fail
    go_ret
    exact ⟨rfl, _, rfl, fun h => by cases h⟩
  · have t0 : decide ((256 : Int) < (n : Int)) = false := decide_eq_false (by omega)
    go_enter Yba.func7, Yba.ntmps7
    go_wp2
    go_loopw [11] (fun s11 wr => ∃ i : Nat, s11 = .int .i64 (i : Int) ∧ i ≤ n ∧ w = wr ∧ (∀ k, k < i → rl k ≤ 256)) (fun s11 _ => n - (intOf s11).toNat)
    case atStart => exact ⟨0, rfl, Nat.zero_le _, rfl, fun k hk => by omega⟩
    case round =>
      obtain ⟨i, rfl, hin, rfl, hlo⟩ := hrel
      have HLO : Hid (∀ k, k < i → rl k ≤ 256) := hlo
      clear hlo
      by_cases hlt : i < n
      · obtain ⟨g, o, ha, hc⟩ := H.out i hlt
        have hri := HR.out i hlt
        have HRI : Hid (rl i = rl i) := rfl
        subst ha
        have HX : Hid (rl i ≤ 256 → ∀ k, k < i + 1 → rl k ≤ 256) := fun h k hk => by
          by_cases e : k = i
          · rw [e]; exact h
          · exact HLO.out k (by omega)
        generalize rl i = l at *
        by_cases hl : 256 < l
        · go_wp2_with fail
          go_ret
          exact ⟨rfl, _, rfl, fun h => by cases h⟩
        · have t1 : decide ((256 : Int) < (l : Int)) = false := decide_eq_false (by omega)
          have t1' : decide (256 < l) = false := decide_eq_false (by omega)
          go_wp2_with fail
          go_roundw
          case rel => exact ⟨i + 1, by go_num, by omega, trivial, HX.out (by omega)⟩
          case measure => simp [intOf]; omega
      · have hii : i = n := by omega
        subst hii
        go_wp2_with fail
        go_ret
        exact ⟨rfl, _, rfl, fun _ => ⟨by omega, HLO.out⟩⟩
theorem pushAm {w0 w : World} {B : Nat} {v : Value} {K : Am} (h : OwnAm w B v K) (hn : New w0 w) (h0 : w0.heap.size ≤ B) (hB : B ≤ w.heap.size) (z1 z2 : Int) (q : Nat × Nat) (e1 : z1 = (q.1 : Int)) (e2 : z2 = (q.2 : Int)) (hl : K.length ≤ 900) :
    ∃ v' w', (Builtin.append_ #[49, 49] 49 #[v, .slice (some ⟨w.heap.size, 0, none⟩) 1 1]).run Yba.prog (w.alloc (.cells #[.int .i64 z1, .int .i64 z2] 73)) = .ok v' w' ∧ OwnAm w' B v' (K ++ [q]) ∧ New w0 w' ∧ B ≤ w'.heap.size := by
  subst e1
  subst e2
  have ha : New w (w.alloc (.cells #[.int .i64 (q.1 : Int), .int .i64 (q.2 : Int)] 73)) := (Chg.refl _ w).alloc _
  have hx : AmV (w.alloc (.cells #[.int .i64 (q.1 : Int), .int .i64 (q.2 : Int)] 73)) (.slice (some ⟨w.heap.size, 0, none⟩) 1 1) [q] := by
    refine ⟨_, 1, rfl, Nat.le_refl _, fun i p hp => ⟨w.heap.size, rfl, ?_⟩⟩
    cases i with
    | zero =>
      simp at hp
      subst hp
      constructor
      · simp [go_sem]
      · simp [go_sem]
    | succ i => simp at hp
  obtain ⟨v', w', hr, ho, hc, _⟩ := appAm (h.chg ha (fun _ _ h => h)) (Nat.le_trans hB ha.size) hx (by simp; omega) 49
  exact ⟨v', w', hr, ho, New.of_chg (hn.new ha) hc (fun b e => Nat.le_trans h0 (h.ge b e).1), Nat.le_trans hB (Nat.le_trans ha.size hc.size)⟩
set_option maxHeartbeats 4000000 in
theorem meet_any (v u : Value) (A M : Am) (w : World) (h : AmV w v A) (hu : AmV w u M) (okA : AmOk A) (okM : AmOk M) :
    Calls Yba.prog 14 #[v, u] w fun e w' => ∃ v', e = .returned v' ∧ OwnAm w' w.heap.size v' (meetP A M) ∧ New w w' := by
  have HA : Hid (AmOk A) := okA
  have HM : Hid (AmOk M) := okM
  have HV : Hid (AmV w v A) := h
  have HU : Hid (AmV w u M) := hu
  obtain ⟨a, c, rfl, hc, _⟩ := h
  obtain ⟨a', c', rfl, hc', _⟩ := hu
  have hA256 := okA.l
  have hM256 := okM.l
  clear okA okM
  generalize hn : A.length = n at *
  generalize hm : M.length = m at *
  have HC1 : Hid (∀ (wr : World) (i : Nat) (p : Nat × Nat), New w wr → A[i]? = some p → ∃ g, a = some ⟨g, 0, none⟩ ∧ wr.cell? ⟨g, i * 2, none⟩ = some (.int .i64 (p.1 : Int)) ∧ wr.cell? ⟨g, i * 2 + 1, none⟩ = some (.int .i64 (p.2 : Int))) := fun wr i p hx hp => by
    obtain ⟨a1, c1, e1, _, hx1⟩ := HV.out.new hx
    cases e1
    exact hx1 i p hp
  have HC2 : Hid (∀ (wr : World) (i : Nat) (p : Nat × Nat), New w wr → M[i]? = some p → ∃ g, a' = some ⟨g, 0, none⟩ ∧ wr.cell? ⟨g, i * 2, none⟩ = some (.int .i64 (p.1 : Int)) ∧ wr.cell? ⟨g, i * 2 + 1, none⟩ = some (.int .i64 (p.2 : Int))) := fun wr i p hx hp => by
    obtain ⟨a1, c1, e1, _, hx1⟩ := HU.out.new hx
    cases e1
    exact hx1 i p hp
  have hown0 : OwnAm (w.alloc (.cells #[] 73)) w.heap.size (.slice (some ⟨w.heap.size, 0, none⟩) 0 0) [] := World.ownsRow_made w #[] 0 (Nat.le_refl _) (by unfold maxLen; omega) rfl
  have HO0 : Hid (OwnAm (w.alloc (.cells #[] 73)) w.heap.size (.slice (some ⟨w.heap.size, 0, none⟩) 0 0) []) := hown0
  have HN0 : Hid (New w (w.alloc (.cells #[] 73))) := (Chg.refl _ w).alloc _
  clear hown0
  go_enter Yba.func14, Yba.ntmps14
  go_wp2
  go_loopw [5, 6, 7] (fun s5 s6 s7 wr => ∃ (i j : Nat) (K : Am), s6 = .int .i64 (i : Int) ∧ s7 = .int .i64 (j : Int) ∧ i ≤ n ∧ j ≤ m ∧ OwnAm wr w.heap.size s5 K ∧ New w wr ∧ w.heap.size ≤ wr.heap.size ∧ K = meetP (A.take i) M ∧ K.length ≤ i ∧ (∀ (q : Nat) (y : Nat × Nat), q < j → M[q]? = some y → ∀ (k : Nat) (p : Nat × Nat), i ≤ k → A[k]? = some p → y.1 < p.1)) (fun _ s6 s7 _ => (n - (intOf s6).toNat) + (m - (intOf s7).toNat))
  case atStart => exact ⟨0, 0, [], rfl, rfl, Nat.zero_le _, Nat.zero_le _, HO0.out, HN0.out, HN0.out.size, rfl, Nat.le_refl _, fun q y hq => by omega⟩
  case round =>
    obtain ⟨i, j, K, rfl, rfl, hin, hjm, hown, hnew, hsz, hK, hKi, hlo⟩ := hrel
    have HOW : Hid (OwnAm wr w.heap.size u5 K) := hown
    have HNW : Hid (New w wr) := hnew
    have HK : Hid (K = meetP (A.take i) M) := hK
    have HLO : Hid (∀ (q : Nat) (y : Nat × Nat), q < j → M[q]? = some y → ∀ (k : Nat) (p : Nat × Nat), i ≤ k → A[k]? = some p → y.1 < p.1) := hlo
    clear hown hnew hK hlo
    by_cases hi : i < n
    · by_cases hj : j < m
      · obtain ⟨p, hp⟩ := get_lt (L := A) (i := i) (by omega)
        obtain ⟨y, hy⟩ := get_lt (L := M) (i := j) (by omega)
        obtain ⟨g1, ha, p1, p2⟩ := HC1.out wr i p HNW.out hp
        obtain ⟨g2, ha', y1, y2⟩ := HC2.out wr j y HNW.out hy
        have HP : Hid (A[i]? = some p) := hp
        have HY : Hid (M[j]? = some y) := hy
        have HND : Hid (New w wr.drew) := HNW.out.drew
        have HOD : Hid (OwnAm wr.drew w.heap.size u5 K) := HOW.out.chg (Chg.refl (fun _ => False) wr).drew (fun _ _ h => h)
        have HNDD : Hid (New w wr.drew.drew) := HNW.out.drew.drew
        have HODD : Hid (OwnAm wr.drew.drew w.heap.size u5 K) := HOW.out.chg (Chg.refl (fun _ => False) wr).drew.drew (fun _ _ h => h)
        subst ha
        subst ha'
        clear hp hy
        have ti : decide ((i : Int) < (n : Int)) = true := decide_eq_true (by omega)
        have tj : decide ((j : Int) < (m : Int)) = true := decide_eq_true (by omega)
        have HSTEP : Hid (meetP (A.take (i + 1)) M = K ++ (mt M p).toList) := by show _ = _; rw [meetP_take HP.out, HK.out]
        by_cases h1 : p.1 < y.1
        · have t1 : decide ((p.1 : Int) < (y.1 : Int)) = true := decide_eq_true (by omega)
          have HX : Hid (K = meetP (A.take (i + 1)) M) := by
            show _ = _
            have : lk M p.1 = none := lk_no fun q z hz => by
              by_cases e1 : q < j
              · have := HLO.out q z e1 hz i p (Nat.le_refl _) HP.out; omega
              · by_cases e2 : q = j
                · subst e2; rw [HY.out] at hz; cases hz; omega
                · have := HM.out.s j q y z (by omega) HY.out hz; omega
            rw [HSTEP.out]
            unfold mt
            rw [this]
            simp
          go_wp2_with fail
          go_region
          go_wp2_with fail
          go_roundw
          case rel => exact ⟨i + 1, j, K, by go_num, rfl, by omega, hjm, HOD.out, HND.out, hsz, HX.out, by omega, fun q z hq hz k p' hk hp' => HLO.out q z hq hz k p' (by omega) hp'⟩
          case measure => simp [intOf]; omega
        · have t1 : decide ((p.1 : Int) < (y.1 : Int)) = false := decide_eq_false (by omega)
          by_cases h2 : y.1 < p.1
          · have t2 : decide ((y.1 : Int) < (p.1 : Int)) = true := decide_eq_true (by omega)
            go_wp2_with fail
            go_region
            go_wp2_with fail
            go_region
            go_wp2_with fail
            go_roundw
            case rel =>
              refine ⟨i, j + 1, K, rfl, by go_num, hin, by omega, HODD.out, HNDD.out, hsz, HK.out, hKi, fun q z hq hz k p' hk hp' => ?_⟩
              by_cases e : q = j
              · subst e
                rw [HY.out] at hz
                cases hz
                by_cases e2 : k = i
                · subst e2; rw [HP.out] at hp'; cases hp'; exact h2
                · have := HA.out.s i k p p' (by omega) HP.out hp'; omega
              · exact HLO.out q z (by omega) hz k p' hk hp'
            case measure => simp [intOf]; omega
          · have t2 : decide ((y.1 : Int) < (p.1 : Int)) = false := decide_eq_false (by omega)
            have hpy : p.1 = y.1 := by omega
            have HMT : Hid (meetP (A.take (i + 1)) M = K ++ [(p.1, min p.2 y.2)]) := by
              show _ = _
              rw [HSTEP.out]
              unfold mt
              rw [hpy, lk_at HM.out.s HY.out]
              rfl
            have HNX : Hid (∀ (q : Nat) (z : Nat × Nat), q < j + 1 → M[q]? = some z → ∀ (k : Nat) (p' : Nat × Nat), i + 1 ≤ k → A[k]? = some p' → z.1 < p'.1) := fun q z hq hz k p' hk hp' => by
              have hs := HA.out.s i k p p' (by omega) HP.out hp'
              by_cases e : q = j
              · subst e; rw [HY.out] at hz; cases hz; omega
              · exact HLO.out q z (by omega) hz k p' (by omega) hp'
            clear hpy
            by_cases hle : y.2 < p.2
            · have t3 : decide ((y.2 : Int) < (p.2 : Int)) = true := decide_eq_true (by omega)
              obtain ⟨v9, w9, hr9, ho9, hn9, hs9⟩ := pushAm HODD.out HNDD.out (Nat.le_refl _) hsz (p.1 : Int) (y.2 : Int) (p.1, y.2) rfl rfl (by omega)
              have HO9 : Hid (OwnAm w9 w.heap.size v9 (K ++ [(p.1, y.2)])) := ho9
              have HN9 : Hid (New w w9) := hn9
              have HQ : Hid (K ++ [(p.1, y.2)] = meetP (A.take (i + 1)) M) := by show _ = _; rw [HMT.out, show min p.2 y.2 = y.2 by omega]
              clear ho9 hn9
              go_wp2_with fail
              go_region
              go_wp2_with fail
              go_region
              go_wp2_with (first | (at_builtin; refine wpList_app rfl _ _ _ _ rfl hr9 rfl rfl ?_) | fail)
              go_roundw
              case rel => exact ⟨i + 1, j + 1, K ++ [(p.1, y.2)], by go_num, by go_num, by omega, by omega, HO9.out, HN9.out, hs9, HQ.out, by simp; omega, HNX.out⟩
              case measure => simp [intOf]; omega
            · have t3 : decide ((y.2 : Int) < (p.2 : Int)) = false := decide_eq_false (by omega)
              obtain ⟨v9, w9, hr9, ho9, hn9, hs9⟩ := pushAm HODD.out HNDD.out (Nat.le_refl _) hsz (p.1 : Int) (p.2 : Int) (p.1, p.2) rfl rfl (by omega)
              have HO9 : Hid (OwnAm w9 w.heap.size v9 (K ++ [(p.1, p.2)])) := ho9
              have HN9 : Hid (New w w9) := hn9
              have HQ : Hid (K ++ [(p.1, p.2)] = meetP (A.take (i + 1)) M) := by show _ = _; rw [HMT.out, show min p.2 y.2 = p.2 by omega]
              clear ho9 hn9
              go_wp2_with fail
              go_region
              go_wp2_with fail
              go_region
              go_wp2_with (first | (at_builtin; refine wpList_app rfl _ _ _ _ rfl hr9 rfl rfl ?_) | fail)
              go_roundw
              case rel => exact ⟨i + 1, j + 1, K ++ [(p.1, p.2)], by go_num, by go_num, by omega, by omega, HO9.out, HN9.out, hs9, HQ.out, by simp; omega, HNX.out⟩
              case measure => simp [intOf]; omega
      · have hjj : j = m := by omega
        have ti : decide ((i : Int) < (n : Int)) = true := decide_eq_true (by omega)
        have tj : decide ((j : Int) < (m : Int)) = false := decide_eq_false (by omega)
        have HF : Hid (K = meetP A M) := by
          show _ = _
          rw [HK.out]
          have e : A = A.take i ++ A.drop i := (List.take_append_drop i A).symm
          have h0 : (A.drop i).filterMap (mt M) = [] := by
            refine List.filterMap_eq_nil_iff.2 fun p hp => ?_
            obtain ⟨k, hk⟩ := List.getElem?_of_mem hp
            rw [List.getElem?_drop] at hk
            unfold mt
            rw [lk_no fun q z hz => ?_]
            · rfl
            · have hq : q < M.length := (List.getElem?_eq_some_iff.1 hz).1
              have := HLO.out q z (by omega) hz (i + k) p (by omega) hk
              omega
          show (A.take i).filterMap (mt M) = A.filterMap (mt M)
          rw [e, List.filterMap_append, List.take_append_drop, h0, List.append_nil]
        go_wp2_with fail
        go_ret
        exact ⟨_, rfl, by rw [← HF.out]; exact HOW.out, HNW.out⟩
    · have hii : i = n := by omega
      have ti : decide ((i : Int) < (n : Int)) = false := decide_eq_false (by omega)
      have HF : Hid (K = meetP A M) := by
        show _ = _
        rw [HK.out, List.take_of_length_le (by omega)]
      go_wp2_with fail
      go_ret
      exact ⟨_, rfl, by rw [← HF.out]; exact HOW.out, HNW.out⟩
end Go.Proofs.Ybulkbtdo.U
