import Derived.Test.YbulkbthwFmtA
namespace Go.Proofs.YbulkbthwFmt
open Go.RowKit

set_option maxHeartbeats 1000000 in
set_option maxRecDepth 100000 in
theorem cellsOf_any (sb b n hsh : Nat) (B : Nat) (X : Nat) (f : Nat → Value) (w : World) (hX : X < 18446744073709551616) (hn0 : 8 ≤ n) (hn : n ≤ 207) (hh3 : 3 ≤ hsh) (hh : hsh ≤ 8)
    (c1 : w.cell? ⟨sb, 1, none⟩ = some (.int .i64 (hsh : Int))) (c2 : w.cell? ⟨sb, 2, none⟩ = some (.slice (some ⟨B, 0, none⟩) n n)) (hb : RowIs w b 31 8 f) (hne : sb ≠ b) :
    Calls Ybaf.prog 10 #[.pointer (some ⟨sb, 0, none⟩), .int .u64 (X : Int), .pointer (some ⟨b, 0, none⟩)] w fun e w' => e = .returned (.slice (some ⟨b, 0, none⟩) hsh 8) ∧ w.grownBy w' (some b) ∧
      ∃ g, RowIs w' b 31 8 g ∧ ∀ j, j < hsh → ∃ c : Nat, c < n ∧ g j = .int .i64 (c : Int) := by
  have e : bits .xor .u64 (X : Int) 2611923443488327891 = ((X ^^^ 2611923443488327891 : Nat) : Int) := bits_xor_u64_nat X 2611923443488327891 hX (by decide)
  have hl : X ^^^ 2611923443488327891 < 2 ^ 64 := Nat.xor_lt_two_pow hX (by decide)
  have HE : Hid (bits .xor .u64 (X : Int) 2611923443488327891 = ((X ^^^ 2611923443488327891 : Nat) : Int)) := e
  clear e
  go_enter Ybaf.func10, Ybaf.ntmps10
  go_wp2_with fail
  rw [HE.out]
  refine (mix_any _ _ hl).mono ?_
  rintro e w' ⟨rfl, rfl⟩
  have hml := mixN_lt (X ^^^ 2611923443488327891)
  generalize mixN (X ^^^ 2611923443488327891) = h at hml ⊢
  clear HE hl
  go_upto_if 29 with fail
  go_cut [] (fun wx => w = wx)
  case first => as_aux_lemma =>
    go_wp2_with fail
    · have hA := cellN_lt h 1 n (by omega)
      have hB := cellN_lt h 2 n (by omega)
      have hC := cellN_lt h 3 n (by omega)
      have hD := cellN_lt h 4 n (by omega)
      refine (cellAt_1 h n _ (by omega) (by omega)).mono ?_
      rintro e w' ⟨rfl, rfl⟩
      go_wp2_with fail
      refine (cellAt_2 h n _ (by omega) (by omega)).mono ?_
      rintro e w' ⟨rfl, rfl⟩
      go_wp2_with fail
      refine (cellAt_3 h n _ (by omega) (by omega)).mono ?_
      rintro e w' ⟨rfl, rfl⟩
      go_wp2_with fail
      refine (cellAt_4 h n _ (by omega) (by omega)).mono ?_
      rintro e w' ⟨rfl, rfl⟩
      generalize cellN h 1 n = A at *
      generalize cellN h 2 n = B' at *
      generalize cellN h 3 n = C at *
      generalize cellN h 4 n = D at *
      go_upto_region 5 with fail
      go_cut [69] (fun s69 wx => (∃ q : Bool, s69 = .bool q) ∧ w = wx)
      case first =>
        by_cases t0 : ((A : Int) != (B' : Int)) = true
        · by_cases t1 : ((A : Int) != (C : Int)) = true
          · by_cases t2 : ((A : Int) != (D : Int)) = true
            · by_cases t3 : ((B' : Int) != (C : Int)) = true
              · by_cases t4 : ((B' : Int) != (D : Int)) = true
                · by_cases t5 : ((C : Int) != (D : Int)) = true
                  · go_wp2_with fail
                    go_meet
                    exact ⟨⟨_, rfl⟩, rfl⟩
                  · have t5 : ((C : Int) != (D : Int)) = false := Bool.eq_false_iff.2 t5
                    go_wp2_with fail
                    go_meet
                    exact ⟨⟨_, rfl⟩, rfl⟩
                · have t4 : ((B' : Int) != (D : Int)) = false := Bool.eq_false_iff.2 t4
                  go_wp2_with fail
                  go_meet
                  exact ⟨⟨_, rfl⟩, rfl⟩
              · have t3 : ((B' : Int) != (C : Int)) = false := Bool.eq_false_iff.2 t3
                go_wp2_with fail
                go_meet
                exact ⟨⟨_, rfl⟩, rfl⟩
            · have t2 : ((A : Int) != (D : Int)) = false := Bool.eq_false_iff.2 t2
              go_wp2_with fail
              go_meet
              exact ⟨⟨_, rfl⟩, rfl⟩
          · have t1 : ((A : Int) != (C : Int)) = false := Bool.eq_false_iff.2 t1
            go_wp2_with fail
            go_meet
            exact ⟨⟨_, rfl⟩, rfl⟩
        · have t0 : ((A : Int) != (B' : Int)) = false := Bool.eq_false_iff.2 t0
          go_wp2_with fail
          go_meet
          exact ⟨⟨_, rfl⟩, rfl⟩
      case rest =>
      obtain ⟨⟨q, rfl⟩, rfl⟩ := hcut
      have r0 := hb.cell (i := 0) (by decide)
      have r1 := hb.cell (i := 1) (by decide)
      have r2 := hb.cell (i := 2) (by decide)
      have r3 := hb.cell (i := 3) (by decide)
      have z0 := hb.frozen 0
      have z1 := hb.frozen 1
      have z2 := hb.frozen 2
      have z3 := hb.frozen 3
      cases q
      · go_wp2_with fail
        go_meet
        rfl
      · go_wp2_with fail
        go_region
        have h4 : hsh = 4 := by
          have := (by assumption : ((hsh : Int) == 4) = true)
          simp at this
          omega
        have R := (((hb.set (i := 0) (by decide) (.int .i64 (A : Int))).set (i := 1) (by decide) (.int .i64 (B' : Int))).set (i := 2) (by decide) (.int .i64 (C : Int))).set (i := 3) (by decide) (.int .i64 (D : Int))
        have G := grown_drew (grown_trans (grown_trans (grown_trans (grown_set w b 0 (.int .i64 (A : Int))) (grown_set _ b 1 (.int .i64 (B' : Int)))) (grown_set _ b 2 (.int .i64 (C : Int)))) (grown_set _ b 3 (.int .i64 (D : Int))))
        subst h4
        go_wp2
        go_ret
        refine ⟨rfl, G, _, R.drew, fun j hj => ?_⟩
        match j, hj with
        | 0, _ => exact ⟨A, hA, rfl⟩
        | 1, _ => exact ⟨B', hB, rfl⟩
        | 2, _ => exact ⟨C, hC, rfl⟩
        | 3, _ => exact ⟨D, hD, rfl⟩
        | m + 4, h => omega
    · go_meet
      rfl
  case rest =>
  obtain rfl := hcut
  go_wp2
  go_loopg [13, 14] allSteps (fun gk s13 s14 wr => ∃ (r : Nat) (zs : List Int), r ≤ allSteps ∧ gk = allSteps - r ∧ s14 = .int .u64 (((1 + r) % 18446744073709551616 : Nat) : Int) ∧ s13 = .slice (some ⟨b, 0, none⟩) zs.length 8 ∧ zs.length ≤ hsh ∧
    (∀ z ∈ zs, ∃ c : Nat, c < n ∧ z = (c : Int)) ∧ (∀ i, i < r → (cellN h ((1 + i) % 18446744073709551616) n : Int) ∈ zs) ∧ w.grownBy wr (some b) ∧ ∃ g, RowIs wr b 31 8 g ∧ ∀ j, j < zs.length → g j = .int .i64 (zs.getD j 0))
  case atStart => exact ⟨0, [], Nat.zero_le _, rfl, rfl, rfl, Nat.zero_le _, fun z hz => absurd hz (List.not_mem_nil), fun i hi => absurd hi (Nat.not_lt_zero _), grown_refl _ _, f, hb, fun j hj => absurd hj (Nat.not_lt_zero _)⟩
  case round =>
    obtain ⟨r, zs, hr, rfl, rfl, rfl, hzl, hzc, hall, hg, g, hrow, hgz⟩ := hrel
    have c1r := cell_kept hg hne c1
    by_cases hlt : zs.length < hsh
    · have hrl := steps_left hml (by omega) (show zs.length < n by omega) hr hall
      generalize hst : (1 + r) % 18446744073709551616 = st
      have hcl := cellN_lt h st n (by omega)
      have HC : Hid (∀ j, j < zs.length → wr.cell? ⟨b, 0 + j, none⟩ = some (.int .i64 (zs.getD j 0))) := fun j hj => by
        rw [Nat.zero_add, hrow.cell (by omega), hgz j hj]
      have HST : Hid ((1 + r) % 18446744073709551616 = st) := hst
      have HALL : Hid (∀ i, i < r → (cellN h ((1 + i) % 18446744073709551616) n : Int) ∈ zs) := hall
      have HZC : Hid (∀ z ∈ zs, ∃ c : Nat, c < n ∧ z = (c : Int)) := hzc
      have HGZ : Hid (∀ j, j < zs.length → g j = .int .i64 (zs.getD j 0)) := hgz
      clear hst hall hzc hgz
      go_wp2_with fail
      refine (cellAt_any h st n _ (by omega) (by omega)).mono ?_
      rintro e w' ⟨rfl, rfl⟩
      go_wp2_with fail
      refine (Ybaf.slices_Contains_int b 0 zs.length 8 zs _ _ (Nat.le_refl _) (by omega) HC.out).mono ?_
      rintro e w' ⟨rfl, hw'⟩
      have hw'' := hw'.symm
      subst hw''
      rw [List.take_length]
      by_cases hct : zs.contains (cellN h st n : Int) = true
      · rw [hct]
        have HCT : Hid (zs.contains (cellN h st n : Int) = true) := hct
        clear hct
        go_wp2
        go_roundg (allSteps - (r + 1))
        case measure => omega
        case rel =>
          refine ⟨r + 1, zs, by omega, rfl, next_step HST.out, rfl, hzl, HZC.out, fun i hi => ?_, hg, g, hrow, HGZ.out⟩
          by_cases e : i = r
          · rw [e, HST.out]
            simpa using HCT.out
          · exact HALL.out i (by omega)
      · have hct : zs.contains (cellN h st n : Int) = false := Bool.eq_false_iff.2 hct
        rw [hct]
        clear hct
        have happ := app_room b zs.length (cellN h st n : Int) g wr (by omega) hrow
        have R := (hrow.alloc (.cells #[.int .i64 (cellN h st n : Int)] 3)).set (i := zs.length) (by omega) (.int .i64 (cellN h st n : Int))
        have G := grown_trans hg (grown_trans (grown_alloc wr b (.cells #[.int .i64 (cellN h st n : Int)] 3)) (grown_set _ b zs.length (.int .i64 (cellN h st n : Int))))
        have f1 := (hrow.alloc (.cells #[.int .i64 (cellN h st n : Int)] 3)).frozen zs.length
        have k1 := (hrow.alloc (.cells #[.int .i64 (cellN h st n : Int)] 3)).cell (i := zs.length) (by omega)
        have f2 := hrow.frozen zs.length
        have k2 := hrow.cell (i := zs.length) (by omega)
        clear hrow hg
        go_wp2
        go_roundg (allSteps - (r + 1))
        case measure => omega
        case rel =>
          refine ⟨r + 1, zs ++ [(cellN h st n : Int)], by omega, rfl, next_step HST.out, by rw [List.length_append]; rfl, by rw [List.length_append]; simp; omega, fun z hz => ?_, fun i hi => ?_, G, _, R, fun j hj => ?_⟩
          · rcases List.mem_append.1 hz with hz | hz
            · exact HZC.out z hz
            · rw [List.mem_singleton] at hz
              exact ⟨_, hcl, hz⟩
          · by_cases e : i = r
            · rw [e, HST.out]
              simp
            · exact List.mem_append_left _ (HALL.out i (by omega))
          · show (if j = zs.length then _ else g j) = _
            rw [List.length_append] at hj
            by_cases e : j = zs.length
            · rw [if_pos e, e]
              simp
            · have hj' : j < zs.length := by simp at hj; omega
              rw [if_neg e, HGZ.out j hj']
              simp [List.getElem?_append_left hj']
    · go_wp2
      go_ret
      have hlen : zs.length = hsh := by omega
      refine ⟨by first | rfl | (simp [hlen]; done) | rw [hlen], hg, g, hrow, fun j hj => ?_⟩
      have hj' : j < zs.length := by omega
      have hm : zs.getD j 0 ∈ zs := by
        rw [List.getD_eq_getElem?_getD, List.getElem?_eq_getElem hj']; exact List.getElem_mem _
      obtain ⟨c, hc, e⟩ := hzc _ hm
      exact ⟨c, hc, by rw [hgz j hj', e]⟩
end Go.Proofs.YbulkbthwFmt
