/-
  lower: the meet, in the first need's own room.
-/
import Derived.Test.YbulkbtdoUG
namespace Go.Proofs.Ybulkbtdo.U
open Go.RowKit
set_option maxRecDepth 100000
theorem info73 : ∃ i, Yba.prog.info? 73 = some i ∧ i.size = 2 := by
  have h : (Yba.prog.info? 73).map (fun i => i.size) = some 2 := by kernel_rfl
  cases e : Yba.prog.info? 73 with
  | none => rw [e] at h; cases h
  | some i => rw [e] at h; exact ⟨i, rfl, by simpa using h⟩
/-- the row while it is lowered: K stands at its head, and from place i on it is as it was -/
def Half (w : World) (g cap : Nat) (L K : Am) (i : Nat) : Prop :=
  ∃ cur, w.heap[g]? = some (.cells cur 73 (0, 0)) ∧ cur.size = cap * 2 ∧ cur.toList.take (K.length * 2) = amCells K ∧ ∀ (k : Nat) (p : Nat × Nat), i ≤ k → L[k]? = some p → cur[k * 2]? = some (.int .i64 (p.1 : Int)) ∧ cur[k * 2 + 1]? = some (.int .i64 (p.2 : Int))
theorem Half.cells {w : World} {g cap : Nat} {L K : Am} {i : Nat} (h : Half w g cap L K i) {k : Nat} {p : Nat × Nat} (hk : i ≤ k) (hp : L[k]? = some p) : w.cell? ⟨g, k * 2, none⟩ = some (.int .i64 (p.1 : Int)) ∧ w.cell? ⟨g, k * 2 + 1, none⟩ = some (.int .i64 (p.2 : Int)) := by
  obtain ⟨cur, hg, _, _, hx⟩ := h
  obtain ⟨h1, h2⟩ := hx k p hk hp
  simp only [World.cell?, hg]
  exact ⟨h1, h2⟩
theorem Half.next {w : World} {g cap : Nat} {L K : Am} {i : Nat} (h : Half w g cap L K i) : Half w g cap L K (i + 1) := by
  obtain ⟨cur, hg, hs, ht, hx⟩ := h
  exact ⟨cur, hg, hs, ht, fun k p hk => hx k p (by omega)⟩
theorem Half.chg {D : Nat → Prop} {w w' : World} {g cap : Nat} {L K : Am} {i : Nat} (h : Half w g cap L K i) (hc : Chg D w w') (hd : ¬ D g) : Half w' g cap L K i := by
  obtain ⟨cur, hg, r⟩ := h
  exact ⟨cur, (hc.block (Array.getElem?_eq_some_iff.1 hg).1 hd).trans hg, r⟩
theorem Half.lt {w : World} {g cap : Nat} {L K : Am} {i : Nat} (h : Half w g cap L K i) : g < w.heap.size := by
  obtain ⟨cur, hg, _⟩ := h
  exact (Array.getElem?_eq_some_iff.1 hg).1
/-- one more is kept -/
theorem Half.push {w : World} {g cap : Nat} {L K : Am} {i : Nat} (h : Half w g cap L K i) (hK : K.length ≤ i) (hi : i < cap) (q : Nat × Nat) (ty : TypeId) :
    ∃ w', (Builtin.append_ #[49, 49] ty #[.slice (some ⟨g, 0, none⟩) K.length cap, .slice (some ⟨w.heap.size, 0, none⟩) 1 1]).run Yba.prog (w.alloc (.cells #[Value.int .i64 (q.1 : Int), Value.int .i64 (q.2 : Int)] 73)) = .ok (.slice (some ⟨g, 0, none⟩) (K.length + 1) cap) w' ∧ Half w' g cap L (K ++ [q]) (i + 1) ∧ Chg (fun k => k = g) w w' := by
  obtain ⟨cur, hg, hs, ht, hx⟩ := h
  obtain ⟨inf, hi73, hsz⟩ := info73
  have hlt : g < w.heap.size := (Array.getElem?_eq_some_iff.1 hg).1
  have hg' : (w.alloc (.cells #[Value.int .i64 (q.1 : Int), Value.int .i64 (q.2 : Int)] 73)).heap[g]? = some (.cells cur 73 (0, 0)) := by exact (heap_alloc_old w _ hlt).trans hg
  have hr := run_append_room (P := Yba.prog) (w.alloc (.cells #[Value.int .i64 (q.1 : Int), Value.int .i64 (q.2 : Int)] 73)) 49 ty 73 inf Yba.underlying49 hi73 g K.length cap cur hg' ⟨w.heap.size, 0, none⟩ 1 1 [Value.int .i64 (q.1 : Int), Value.int .i64 (q.2 : Int)] (by rw [hsz]; rfl)
    (fun j u hj => by
      rw [add_at, Nat.zero_add]
      match j, hj with
      | 0, hj => cases hj; simp [go_sem]
      | 1, hj => cases hj; simp [go_sem]
      | n + 2, hj => simp at hj)
    (fun u hu => by simp at hu; rcases hu with rfl | rfl <;> rfl) (by omega) (by rw [hsz, hs]; show _ + 2 ≤ _; omega)
  rw [hsz] at hr
  have hal : Chg (fun k => k = g) w (w.alloc (.cells #[Value.int .i64 (q.1 : Int), Value.int .i64 (q.2 : Int)] 73)) := (Chg.refl _ w).alloc _
  refine ⟨_, hr, ⟨_, setRow_heap _ g cur _ 73 _ hg', ?_, ?_, fun k p hk hp => ?_⟩, hal.setRow (fun _ => rfl) _⟩
  · simp [hs]; omega
  · have e : (K ++ [q]).length * 2 = (cur.toList.take (K.length * 2) ++ [Value.int .i64 (q.1 : Int), Value.int .i64 (q.2 : Int)]).length := by simp [hs]; omega
    rw [e]
    show List.take _ (_ ++ _ ++ _) = _
    rw [List.take_left, ht, amCells_append]
    rfl
  · have hk' : i + 1 ≤ k := hk
    obtain ⟨h1, h2⟩ := hx k p (by omega) hp
    have e : (cur.toList.take (K.length * 2) ++ [Value.int .i64 (q.1 : Int), Value.int .i64 (q.2 : Int)]).length = K.length * 2 + 2 := by simp [hs]; omega
    have far : ∀ x, K.length * 2 + 2 ≤ x → (cur.toList.take (K.length * 2) ++ [Value.int .i64 (q.1 : Int), Value.int .i64 (q.2 : Int)] ++ cur.toList.drop (K.length * 2 + 2)).toArray[x]? = cur[x]? := fun x hx => by
      rw [List.getElem?_toArray, List.getElem?_append_right (by rw [e]; omega), e, List.getElem?_drop, show K.length * 2 + 2 + (x - (K.length * 2 + 2)) = x by omega]
      simp
    refine ⟨(far _ ?_).trans h1, (far _ ?_).trans h2⟩
    · omega
    · omega
theorem Half.of_own {w : World} {B g cap : Nat} {L : Am} (h : OwnAm w B (.slice (some ⟨g, 0, none⟩) L.length cap) L) : Half w g cap L [] 0 := by
  rcases h.2 with ⟨h0, _⟩ | ⟨g', cap', cur, hv, _, hg, hn, _, hs, ht⟩
  · cases h0
  · cases hv
    refine ⟨cur, hg, hs, rfl, fun k p _ hp => ?_⟩
    obtain ⟨h1, h2⟩ := amCells_get hp
    rw [← ht] at h1 h2
    have hk : k < L.length := (List.getElem?_eq_some_iff.1 hp).1
    rw [List.getElem?_take_of_lt (by omega)] at h1 h2
    exact ⟨by simpa using h1, by simpa using h2⟩
theorem Half.own {w : World} {B g cap : Nat} {L K : Am} {i : Nat} (h : Half w g cap L K i) (hB : B ≤ g) (hK : K.length ≤ cap) (hc : cap ≤ maxLen) : OwnAm w B (.slice (some ⟨g, 0, none⟩) K.length cap) K := by
  obtain ⟨cur, hg, hs, ht, _⟩ := h
  exact ⟨amCells_length K, .inr ⟨g, cap, cur, rfl, hB, hg, hK, hc, hs, ht⟩⟩
set_option maxHeartbeats 4000000 in
theorem lower_some (B g cap : Nat) (u : Value) (L M : Am) (w : World) (h : OwnAm w B (.slice (some ⟨g, 0, none⟩) L.length cap) L) (hcap : L.length ≤ cap) (hu : AmV w u M) (okL : AmOk L) (okM : AmOk M) (hne : u.ownBlock ≠ some g) :
    Calls Yba.prog 18 #[.slice (some ⟨g, 0, none⟩) L.length cap, u] w fun e w' => ∃ K i, e = .returned (.slice (some ⟨g, 0, none⟩) (List.length K) cap) ∧ K = meetP L M ∧ Half w' g cap L K i ∧ Chg (fun k => k = g) w w' := by
  have HH0 : Hid (Half w g cap L [] 0) := Half.of_own h
  have HL : Hid (AmOk L) := okL
  have HM : Hid (AmOk M) := okM
  have HU : Hid (AmV w u M) := hu
  obtain ⟨a, c, rfl, hc, _⟩ := hu
  have hgl : g < w.heap.size := HH0.out.lt
  have hL256 := okL.l
  have hM256 := okM.l
  clear h okL okM
  generalize hn : L.length = n at *
  generalize hm : M.length = m at *
  have HGN : Hid (∀ wr, Chg (fun k => k = g) w wr → AmV wr (.slice a m c) M) := fun wr hch => HU.out.chg hch (fun k hk e => hne (by rw [hk, e]))
  go_enter Yba.func18, Yba.ntmps18
  go_wp2
  go_loopw [5, 6, 14] (fun s5 s6 s14 wr => ∃ (i j : Nat) (K : Am), s14 = .int .i64 (i : Int) ∧ s6 = .int .i64 (j : Int) ∧ s5 = .slice (some ⟨g, 0, none⟩) K.length cap ∧ i ≤ n ∧ j ≤ m ∧ K = meetP (L.take i) M ∧ K.length ≤ i ∧ Half wr g cap L K i ∧ Chg (fun k => k = g) w wr ∧ (∀ (q : Nat) (y : Nat × Nat), q < j → M[q]? = some y → ∀ (k : Nat) (p : Nat × Nat), i ≤ k → L[k]? = some p → y.1 < p.1)) (fun _ _ s14 _ => n - (intOf s14).toNat)
  case atStart => exact ⟨0, 0, [], rfl, rfl, rfl, Nat.zero_le _, Nat.zero_le _, rfl, Nat.le_refl _, HH0.out, Chg.refl _ _, fun q y hq => by omega⟩
  case round =>
    obtain ⟨i, j, K, rfl, rfl, rfl, hin, hjm, hK, hKi, hhalf, hch, hlo⟩ := hrel
    have HK : Hid (K = meetP (L.take i) M) := hK
    have HHF : Hid (Half wr g cap L K i) := hhalf
    have HCH : Hid (Chg (fun k => k = g) w wr) := hch
    have HLO : Hid (∀ (q : Nat) (y : Nat × Nat), q < j → M[q]? = some y → ∀ (k : Nat) (p : Nat × Nat), i ≤ k → L[k]? = some p → y.1 < p.1) := hlo
    clear hK hhalf hch hlo
    by_cases hlt : i < n
    · obtain ⟨p, hp⟩ := get_lt (L := L) (i := i) (by omega)
      obtain ⟨hc1, hc2⟩ := HHF.out.cells (Nat.le_refl _) hp
      have HP : Hid (L[i]? = some p) := hp
      have HNW : Hid (New wr (wr.alloc (.cells #[.int .i64 (p.1 : Int), .int .i64 (p.2 : Int)] 73))) := (Chg.refl _ _).alloc _
      have HRA : Hid (RowIs (wr.alloc (.cells #[.int .i64 (p.1 : Int), .int .i64 (p.2 : Int)] 73)) wr.heap.size 73 2 (fun k => (#[.int .i64 (p.1 : Int), .int .i64 (p.2 : Int)] : Array Value)[k]?.getD undef)) := RowIs.made wr _ 73
      have HGA : Hid (g < wr.heap.size) := HHF.out.lt
      have HAW : Hid (w.heap.size ≤ wr.heap.size) := HCH.out.size
      clear hp
      go_wp2
      generalize hwa : wr.alloc (.cells #[.int .i64 (p.1 : Int), .int .i64 (p.2 : Int)] 73) = wa at *
      generalize hA : wr.heap.size = A at *
      clear hwa hA hc1 hc2
      have HCA : Hid (Chg (fun k => k = g) w wa) := HCH.out.new HNW.out
      have HHA : Hid (Half wa g cap L K i) := HHF.out.chg HNW.out (fun h => h)
      go_loopw [6] (fun s6 wz => ∃ j : Nat, s6 = .int .i64 (j : Int) ∧ j ≤ m ∧ New wa wz ∧ (∀ (q : Nat) (y : Nat × Nat), q < j → M[q]? = some y → y.1 < p.1)) (fun s6 _ => m - (intOf s6).toNat)
      case atStart => exact ⟨j, rfl, hjm, Chg.refl _ _, fun q y hq hy => HLO.out q y hq hy i p (Nat.le_refl _) HP.out⟩
      case round =>
        clear HLO HHF HCH HNW hjm
        obtain ⟨j, rfl, hjm, hnz, hlo⟩ := hrel
        have HNZ : Hid (New wa wr) := hnz
        have HLO : Hid (∀ (q : Nat) (y : Nat × Nat), q < j → M[q]? = some y → y.1 < p.1) := hlo
        have hd0 := (HRA.out.chg hnz (fun h => h)).cell (i := 0) (by decide)
        have hd0 : wr.cell? ⟨A, 0, none⟩ = some (.int .i64 (p.1 : Int)) := hd0
        clear hnz hlo
        -- what is left to do behind the loop: j is fixed, the world is wx
        have fin : Hid (∀ wx, New wa wx → RowIs wx A 73 2 (fun k => (#[.int .i64 (p.1 : Int), .int .i64 (p.2 : Int)] : Array Value)[k]?.getD undef) ∧ Half wx g cap L K i ∧ Chg (fun k => k = g) w wx ∧ AmV wx (.slice a m c) M) := fun wx hx => ⟨HRA.out.chg hx (fun h => h), HHA.out.chg hx (fun h => h), HCA.out.new hx, HGN.out wx (HCA.out.new hx)⟩
        have HSTEP : Hid (meetP (L.take (i + 1)) M = K ++ (mt M p).toList) := by show _ = _; rw [meetP_take HP.out, HK.out]
        have HNX : Hid (∀ (q : Nat) (y : Nat × Nat), q < j → M[q]? = some y → ∀ (k : Nat) (p' : Nat × Nat), i + 1 ≤ k → L[k]? = some p' → y.1 < p'.1) := fun q y hq hy k p' hk hp' => by
          have h1 := HLO.out q y hq hy
          have h2 := HL.out.s i k p p' (by omega) HP.out hp'
          omega
        by_cases hjlt : j < m
        · obtain ⟨y, hy⟩ := get_lt (L := M) (i := j) (by omega)
          obtain ⟨a', c', e', _, hx'⟩ := (fin.out wr HNZ.out).2.2.2
          injection e' with ea eb ec
          subst ea
          clear eb ec
          obtain ⟨gu, ha, hm1, hm2⟩ := hx' j y hy
          have HY : Hid (M[j]? = some y) := hy
          subst ha
          clear hx' hy
          have tj : decide (j < m) = true := decide_eq_true hjlt
          have tj' : decide ((j : Int) < (m : Int)) = true := decide_eq_true (by omega)
          by_cases hyp : y.1 < p.1
          · have ty : decide (y.1 < p.1) = true := decide_eq_true hyp
            have ty' : decide ((y.1 : Int) < (p.1 : Int)) = true := decide_eq_true (by omega)
            go_wp2_with fail
            go_region
            go_wp2_with fail
            go_roundw
            case rel =>
              refine ⟨j + 1, by go_num, by omega, HNZ.out.drew, fun q z hq hz => ?_⟩
              by_cases e : q = j
              · subst e; rw [HY.out] at hz; cases hz; exact hyp
              · exact HLO.out q z (by omega) hz
            case measure => simp [intOf]; omega
          · have ty : decide (y.1 < p.1) = false := decide_eq_false hyp
            have ty' : decide ((y.1 : Int) < (p.1 : Int)) = false := decide_eq_false (by omega)
            go_wp2_with fail
            go_region
            go_upto_region 8 with fail
            go_cut [47] (fun s47 wx => s47 = .bool (decide (y.1 = p.1)) ∧ New wa wx)
            case first => as_aux_lemma =>
              by_cases hyq : y.1 = p.1
              · have tq : ((y.1 : Int) == (p.1 : Int)) = true := by simp; omega
                have HTQ : Hid (decide (y.1 = p.1) = true) := decide_eq_true hyq
                go_region
                go_wp2_with fail
                go_meet
                exact ⟨by simp [hyq], HNZ.out.drew.drew⟩
              · have tq : ((y.1 : Int) == (p.1 : Int)) = false := by simp; omega
                go_region
                go_wp2_with fail
                go_meet
                exact ⟨by simp [hyq], HNZ.out.drew.drew⟩
            case rest =>
            obtain ⟨rfl, hnx⟩ := hcut
            obtain ⟨hRx, hHx, hCx, hMx⟩ := fin.out wc hnx
            clear hm1 hm2 hd0 HNZ
            have hd0 : wc.cell? ⟨A, 0, none⟩ = some (.int .i64 (p.1 : Int)) := hRx.cell (i := 0) (by decide)
            have hd1 : wc.cell? ⟨A, 1, none⟩ = some (.int .i64 (p.2 : Int)) := hRx.cell (i := 1) (by decide)
            have hf1 := hRx.frozen 1
            have HHX : Hid (Half wc g cap L K i) := hHx
            have HCX : Hid (Chg (fun k => k = g) w wc) := hCx
            have hgA := HGA.out
            by_cases hyq : y.1 = p.1
            · rw [decide_eq_true hyq]
              obtain ⟨a2, c2, e2, _, hx2⟩ := hMx
              injection e2 with ea eb ec
              subst ea
              clear eb ec
              obtain ⟨g2, ha2, hm1, hm2⟩ := hx2 j y HY.out
              cases ha2
              have HMT : Hid (meetP (L.take (i + 1)) M = K ++ [(p.1, min p.2 y.2)]) := by
                show _ = _
                rw [HSTEP.out]
                unfold mt
                rw [← hyq, lk_at HM.out.s HY.out]
                rfl
              have hp1 := HL.out.p i p HP.out
              have hy1 := HM.out.p j y HY.out
              by_cases hle : p.2 ≤ y.2
              · have tle : decide ((y.2 : Int) < (p.2 : Int)) = false := decide_eq_false (by omega)
                have HMQ : Hid (meetP (L.take (i + 1)) M = K ++ [(p.1, p.2)]) := by
                  show _ = _
                  rw [HMT.out, show min p.2 y.2 = p.2 by omega]
                have tq : ((p.2 : Int) != 0) = true := by simp; omega
                have hS : Chg (fun k => k = A) wc (wc.setCell ⟨A, 1, none⟩ (.int .i64 (p.2 : Int))) := Chg.set (D := fun k => k = A) (Chg.refl _ wc) (fun _ => rfl) _
                obtain ⟨w9, hr9, hH9, hC9⟩ := (hHx.chg hS (by omega)).push hKi (by omega) (p.1, p.2) 49
                have hsz9 : (wc.setCell ⟨A, 1, none⟩ (.int .i64 (p.2 : Int))).heap.size = wc.heap.size := by simp
                rw [hsz9] at hr9
                have HH9 : Hid (Half w9 g cap L (K ++ [(p.1, p.2)]) (i + 1)) := hH9
                have HC9 : Hid (Chg (fun k => k = g) w w9) := (HCX.out.trans hS (fun b hb e => by have := HAW.out; omega)).trans hC9 (fun _ _ e => e)
                have HYQ : Hid (y.1 = p.1) := hyq
                clear hx2 hRx hHx hCx hH9 hC9 hS hyq HMT
                go_wp2_with (first | (at_builtin; refine wpList_app rfl _ _ _ _ rfl hr9 rfl rfl ?_) | fail)
                go_roundw
                case rel =>
                  refine ⟨i + 1, j, K ++ [(p.1, p.2)], by go_num, rfl, ?_, by omega, hjm, HMQ.out.symm, by simp; omega, HH9.out, HC9.out, HNX.out⟩
                  simp
                case measure => simp [intOf]; omega
              · have tle : decide ((y.2 : Int) < (p.2 : Int)) = true := decide_eq_true (by omega)
                have HMQ : Hid (meetP (L.take (i + 1)) M = K ++ [(p.1, y.2)]) := by
                  show _ = _
                  rw [HMT.out, show min p.2 y.2 = y.2 by omega]
                have tq : ((y.2 : Int) != 0) = true := by simp; omega
                have hS : Chg (fun k => k = A) wc (wc.setCell ⟨A, 1, none⟩ (.int .i64 (y.2 : Int))) := Chg.set (D := fun k => k = A) (Chg.refl _ wc) (fun _ => rfl) _
                obtain ⟨w9, hr9, hH9, hC9⟩ := (hHx.chg hS (by omega)).push hKi (by omega) (p.1, y.2) 49
                have hsz9 : (wc.setCell ⟨A, 1, none⟩ (.int .i64 (y.2 : Int))).heap.size = wc.heap.size := by simp
                rw [hsz9] at hr9
                have HH9 : Hid (Half w9 g cap L (K ++ [(p.1, y.2)]) (i + 1)) := hH9
                have HC9 : Hid (Chg (fun k => k = g) w w9) := (HCX.out.trans hS (fun b hb e => by have := HAW.out; omega)).trans hC9 (fun _ _ e => e)
                have HYQ : Hid (y.1 = p.1) := hyq
                clear hx2 hRx hHx hCx hH9 hC9 hS hyq HMT
                go_wp2_with (first | (at_builtin; refine wpList_app rfl _ _ _ _ rfl hr9 rfl rfl ?_) | fail)
                go_roundw
                case rel =>
                  refine ⟨i + 1, j, K ++ [(p.1, y.2)], by go_num, rfl, ?_, by omega, hjm, HMQ.out.symm, by simp; omega, HH9.out, HC9.out, HNX.out⟩
                  simp
                case measure => simp [intOf]; omega
            · rw [decide_eq_false hyq]
              have HLK : Hid (lk M p.1 = none) := lk_no fun q z hz => by
                by_cases e1 : q < j
                · have := HLO.out q z e1 hz; omega
                · by_cases e2 : q = j
                  · subst e2; rw [HY.out] at hz; cases hz; exact hyq
                  · have := HM.out.s j q y z (by omega) HY.out hz; omega
              have hp1 := HL.out.p i p HP.out
              have tle : decide ((0 : Int) < (p.2 : Int)) = true := decide_eq_true (by omega)
              have hS : Chg (fun k => k = A) wc (wc.setCell ⟨A, 1, none⟩ (.int .i64 0)) := Chg.set (D := fun k => k = A) (Chg.refl _ wc) (fun _ => rfl) _
              have HH9 : Hid (Half (wc.setCell ⟨A, 1, none⟩ (.int .i64 0)) g cap L K (i + 1)) := (hHx.chg hS (by omega)).next
              have HC9 : Hid (Chg (fun k => k = g) w (wc.setCell ⟨A, 1, none⟩ (.int .i64 0))) := HCX.out.trans hS (fun b hb e => by have := HAW.out; omega)
              have HMQ : Hid (meetP (L.take (i + 1)) M = K) := by
                show _ = _
                rw [HSTEP.out]
                unfold mt
                rw [HLK.out]
                simp
              clear hRx hHx hCx hMx hS
              go_wp2_with fail
              go_roundw
              case rel => exact ⟨i + 1, j, K, by go_num, rfl, rfl, by omega, hjm, HMQ.out.symm, by omega, HH9.out, HC9.out, HNX.out⟩
              case measure => simp [intOf]; omega
        · have hjj : j = m := by omega
          subst hjj
          have tj : decide (j < j) = false := decide_eq_false (by omega)
          have tj' : decide ((j : Int) < (j : Int)) = false := decide_eq_false (by omega)
          have HLK : Hid (lk M p.1 = none) := lk_no fun q z hz => by
            have hq : q < M.length := (List.getElem?_eq_some_iff.1 hz).1
            have := HLO.out q z (by omega) hz
            omega
          go_wp2_with fail
          go_region
          go_upto_region 8 with fail
          go_cut [47] (fun s47 wx => s47 = .bool false ∧ New wa wx)
          case first => as_aux_lemma =>
            go_region
            go_wp2_with fail
            go_meet
            exact ⟨rfl, HNZ.out.drew.drew⟩
          case rest =>
          obtain ⟨rfl, hnx⟩ := hcut
          obtain ⟨hRx, hHx, hCx, hMx⟩ := fin.out wc hnx
          clear hd0 HNZ
          have hd0 : wc.cell? ⟨A, 0, none⟩ = some (.int .i64 (p.1 : Int)) := hRx.cell (i := 0) (by decide)
          have hd1 : wc.cell? ⟨A, 1, none⟩ = some (.int .i64 (p.2 : Int)) := hRx.cell (i := 1) (by decide)
          have hf1 := hRx.frozen 1
          have HCX : Hid (Chg (fun k => k = g) w wc) := hCx
          have hgA := HGA.out
          have hp1 := HL.out.p i p HP.out
          have tle : decide ((0 : Int) < (p.2 : Int)) = true := decide_eq_true (by omega)
          have hS : Chg (fun k => k = A) wc (wc.setCell ⟨A, 1, none⟩ (.int .i64 0)) := Chg.set (D := fun k => k = A) (Chg.refl _ wc) (fun _ => rfl) _
          have HH9 : Hid (Half (wc.setCell ⟨A, 1, none⟩ (.int .i64 0)) g cap L K (i + 1)) := (hHx.chg hS (by omega)).next
          have HC9 : Hid (Chg (fun k => k = g) w (wc.setCell ⟨A, 1, none⟩ (.int .i64 0))) := HCX.out.trans hS (fun b hb e => by have := HAW.out; omega)
          have HMQ : Hid (meetP (L.take (i + 1)) M = K) := by
            show _ = _
            rw [HSTEP.out]
            unfold mt
            rw [HLK.out]
            simp
          clear hRx hHx hCx hMx hS
          go_wp2_with fail
          go_roundw
          case rel => exact ⟨i + 1, j, K, by go_num, rfl, rfl, by omega, hjm, HMQ.out.symm, by omega, HH9.out, HC9.out, HNX.out⟩
          case measure => simp [intOf]; omega
    · have hii : i = n := by omega
      subst hii
      have HKF : Hid (K = meetP L M) := by show _ = _; rw [HK.out, List.take_of_length_le (by omega)]
      go_wp2_with fail
      go_ret
      exact ⟨K, i, rfl, HKF.out, HHF.out, HCH.out⟩
theorem lower_none (u : Value) (w : World) : Calls Yba.prog 18 #[.slice none 0 0, u] w fun e w' => e = .returned (.slice none 0 0) ∧ w' = w := by
  go_enter Yba.func18, Yba.ntmps18
  go_wp2
  go_loopw [5, 14] (fun s5 s14 wr => s5 = .slice none 0 0 ∧ s14 = .int .i64 0 ∧ wr = w) (fun _ _ _ => 0)
  case atStart => exact ⟨rfl, rfl, rfl⟩
  case round =>
    obtain ⟨rfl, rfl, rfl⟩ := hrel
    go_wp2_with fail
    go_ret
    exact ⟨rfl, rfl⟩
theorem lower_any (B : Nat) (v u : Value) (L M : Am) (w : World) (h : OwnAm w B v L) (hu : AmV w u M) (okL : AmOk L) (okM : AmOk M) (hne : ∀ b, v.ownBlock = some b → u.ownBlock ≠ some b) :
    Calls Yba.prog 18 #[v, u] w fun e w' => ∃ v', e = .returned v' ∧ OwnAm w' B v' (meetP L M) ∧ v'.ownBlock = v.ownBlock ∧ Chg (fun k => v.ownBlock = some k) w w' := by
  have h' := h
  rcases h.2 with ⟨rfl, h0⟩ | ⟨g, cap, cur, rfl, hb, _, hn, hc, _⟩
  · have : L = [] := List.eq_nil_of_length_eq_zero h0
    subst this
    refine (lower_none u w).mono ?_
    rintro e w' ⟨rfl, rfl⟩
    exact ⟨_, rfl, OwnAm.nil _ _, rfl, Chg.refl _ _⟩
  · refine (lower_some B g cap u L M w h' hn hu okL okM (hne g rfl)).mono ?_
    rintro e w' ⟨K, i, rfl, rfl, hh, hch⟩
    refine ⟨_, rfl, hh.own hb (Nat.le_trans (meetP_len L M) hn) hc, rfl, hch.mono fun b _ e => ?_⟩
    subst e
    rfl
end Go.Proofs.Ybulkbtdo.U
