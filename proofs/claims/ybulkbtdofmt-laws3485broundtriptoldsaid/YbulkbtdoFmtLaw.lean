/-
  THE WALK OF 'workload.LawS3485BRoundTrip': it returns true and writes nothing that was there.
-/
import Derived.Test.YbulkbtdoFmtParts
namespace Go.Proofs.YbulkbtdoFmt
open Go.RowKit Go.Maps Go.WideMaps
set_option maxHeartbeats 4000000 in
set_option maxRecDepth 100000 in
theorem law_any (a0 : Option Addr) (l0 c0 : Nat) (x0 : Nat → Int) (p si : Int) (rcl : Bool) (tmo : Int) (mx : Bool) (a6 : Option Addr) (l6 c6 : Nat) (x6 : Nat → Int) (a7 : Option Addr) (l7 c7 : Nat) (x7 : Nat → Int) (w : World)
   (h0 : BytesAt w a0 l0 x0) (h6 : BytesAt w a6 l6 x6) (h7 : ValsAt w a7 l7 x7) (hl : l6 ≤ 1024) (hl0 : l0 ≤ 9223372036854775807) (hp0 : 0 ≤ p ∧ p ≤ 255) (hs0 : 0 ≤ si ∧ si ≤ 255) (hN : LaidNames w) :
    Calls Ybaf.prog 3 #[.slice a0 l0 c0, .int .u8 p, .int .u8 si, .bool rcl, .int .i64 tmo, .bool mx, .slice a6 l6 c6, .slice a7 l7 c7] w fun e w' => e = .returned (.bool true) ∧ Below w.heap.size w w' := by
  obtain ⟨hp1, hp2⟩ := hp0
  obtain ⟨hs1, hs2⟩ := hs0
  have hmm := @run_makeMap Ybaf.prog
  go_enter Ybaf.func3, Ybaf.ntmps3
  go_upto_if 45 with fail
  go_cut [18] (fun s18 wx => (∃ m : Nat, m ≤ 8 ∧ m ≤ l0 ∧ s18 = .int .i64 m) ∧ w = wx)
  case first => as_aux_lemma =>
    go_wp2_with fail
    all_goals go_meet
    · case rel => exact ⟨⟨8, by omega, by omega, rfl⟩, rfl⟩
    · case rel => exact ⟨⟨l0, by omega, by omega, rfl⟩, rfl⟩
  case rest =>
  obtain ⟨⟨m, hm8, hml, rfl⟩, rfl⟩ := hcut
  go_wp2
  go_loop [19, 20] (fun nm i => ∃ (k : Nat) (s : ByteArray), k ≤ m ∧ i = .int .i64 k ∧ nm = .string s ∧ s.size = k + 1 ∧ Letters s) (fun _ i => m - (intOf i).toNat)
  case atStart => exact ⟨0, _, Nat.zero_le _, rfl, rfl, rfl, letters_q⟩
  case round =>
    obtain ⟨k, s, hk, rfl, rfl, hs, hls⟩ := hrel
    by_cases hlt : k < m
    · as_aux_lemma =>
      obtain ⟨b, off, ha, hc, hx1, hx2⟩ := h0 k (by omega)
      have hidx := fun w => idx22 (cap := c0) ha (show k < l0 by omega) w
      clear ha h0
      have HS : Hid (s.size = k + 1) := hs
      have HL : Hid (Letters s) := hls
      clear hs hls
      generalize x0 k = x at hc hx1 hx2
      obtain ⟨c, t, hi, hcv, ht1, htl⟩ := letter_at x
      have HT : Hid (t.size = 1) := ht1
      have HTL : Hid (Letters t) := htl
      have hsum : s.size + t.size ≤ 9223372036854775807 := by have := HS.out; omega
      clear ht1 htl
      go_wp2
      go_round
      case rel => exact ⟨k + 1, _, by omega, by go_num, rfl, by rw [ByteArray.size_append, HS.out, HT.out], HL.out.append HTL.out⟩
      case measure => simp [intOf]; omega
    · clear h0
      have hs9 : s.size ≤ 9 := by omega
      have hs0 : 0 < s.size := by omega
      clear hs
      go_upto_region 15 with fail
      go_cut [24] (fun s24 wx => s24 = .pointer (some ⟨w.heap.size + 1 + 1 + 1, 0, none⟩) ∧ ∃ pol, PolOk pol ∧ wx = (((w.alloc polB).alloc shaB).alloc resB).alloc (queB s pol ⟨#[]⟩ false 0 none))
      case first => as_aux_lemma =>
        have hp : p % 4 = 0 ∨ p % 4 = 1 ∨ p % 4 = 2 ∨ p % 4 = 3 := by omega
        rcases hp with hp | hp | hp | hp
        all_goals
          go_wp2_with fail
          go_meet
        · case rel => exact ⟨rfl, _, Or.inl rfl, rfl⟩
        · case rel => exact ⟨rfl, _, Or.inr (Or.inl rfl), rfl⟩
        · case rel => exact ⟨rfl, _, Or.inr (Or.inr (Or.inl rfl)), rfl⟩
        · case rel => exact ⟨rfl, _, Or.inr (Or.inr (Or.inr rfl)), rfl⟩
      case rest =>
      obtain ⟨rfl, pol, hpol, rfl⟩ := hcut
      go_upto_if 77 with fail
      go_cut [] (fun wx => ∃ sh, (((pol.toList == [102, 97, 105, 114, 115, 104, 97, 114, 101]) = false ∧ sh = ⟨#[]⟩) ∨ ((pol.toList == [102, 97, 105, 114, 115, 104, 97, 114, 101]) = true ∧ ShOk sh)) ∧ wx = (((w.alloc polB).alloc shaB).alloc resB).alloc (queB s pol sh false 0 none))
      case first => as_aux_lemma =>
        have hp : si % 3 = 0 ∨ si % 3 = 1 ∨ si % 3 = 2 := by omega
        rcases hp with hp | hp | hp
        all_goals
          go_wp2_with fail
          all_goals
            go_meet
            first
              | exact ⟨_, Or.inl ⟨by assumption, rfl⟩, rfl⟩
              | exact ⟨_, Or.inr ⟨by assumption, Or.inl rfl⟩, rfl⟩
              | exact ⟨_, Or.inr ⟨by assumption, Or.inr (Or.inl rfl)⟩, rfl⟩
              | exact ⟨_, Or.inr ⟨by assumption, Or.inr (Or.inr rfl)⟩, rfl⟩
      case rest =>
      obtain ⟨sh, hsh, rfl⟩ := hcut
      go_upto_region 18 with fail
      go_cut [90] (fun s90 wx => s90 = .bool ((pol.toList == [112, 114, 105, 111, 114, 105, 116, 121]) && rcl) ∧ (((w.alloc polB).alloc shaB).alloc resB).alloc (queB s pol sh false 0 none) = wx)
      case first => as_aux_lemma =>
        by_cases hf : (pol.toList == [112, 114, 105, 111, 114, 105, 116, 121]) = true
        · go_wp2_with fail
          go_meet
          exact ⟨by rw [hf]; rfl, rfl⟩
        · have hf : (pol.toList == [112, 114, 105, 111, 114, 105, 116, 121]) = false := by simpa using hf
          go_wp2_with fail
          go_meet
          exact ⟨by rw [hf]; rfl, rfl⟩
      case rest =>
      obtain ⟨rfl, rfl⟩ := hcut
      go_upto_if 90 with fail
      go_cut [3] (fun _ wx => ∃ rc t, Kind pol sh rc t ∧ wx = (((w.alloc polB).alloc shaB).alloc resB).alloc (queB s pol sh rc t none))
      case first => as_aux_lemma =>
        go_wp2_with fail
        all_goals go_meet
        all_goals first
          | exact ⟨_, _, kind_prio hsh (And.left (by assumption)) (and_max_bd tmo).1, rfl⟩
          | exact ⟨_, _, kind_else hsh, rfl⟩
      case rest =>
      obtain ⟨rc, t, hkind, rfl⟩ := hcut
      clear hsh
      go_upto_region 21 with fail
      go_cut [100] (fun s100 wx => s100 = .bool (mx && !rc) ∧ (((w.alloc polB).alloc shaB).alloc resB).alloc (queB s pol sh rc t none) = wx)
      case first => as_aux_lemma =>
        cases mx
        all_goals
          go_wp2_with fail
          go_meet
          exact ⟨rfl, rfl⟩
      case rest =>
      obtain ⟨rfl, rfl⟩ := hcut
      go_upto_if 100 with fail
      go_cut [5] (fun _ wx => Rel7 w wx s pol sh rc t)
      case first => as_aux_lemma =>
        by_cases hmr : mx = true ∧ rc = false
        · obtain ⟨rfl, rfl⟩ := hmr
          go_wp2_with fail
          go_loopw [105] (fun i wr => ∃ j : Nat, j ≤ l6 ∧ i = .int .i64 j ∧ Below ((((w.alloc polB).alloc shaB).alloc resB).alloc (queB s pol sh false t (some (w.heap.size + 1 + 1 + 1 + 1)))).heap.size ((((w.alloc polB).alloc shaB).alloc resB).alloc (queB s pol sh false t (some (w.heap.size + 1 + 1 + 1 + 1)))) wr ∧ ∃ D, Owns wr (w.heap.size + 1 + 1 + 1 + 1) j D)
            (fun i _ => l6 - (intOf i).toNat)
          case atStart => exact ⟨0, Nat.zero_le _, rfl, (Below.refl _ _).alloc (Nat.le_refl _) _, _, own_start w s pol sh t⟩
          case round =>
            obtain ⟨j, hj, rfl, hb4, D, hown⟩ := hrel
            by_cases hlj : j < l6
            · as_aux_lemma =>
              obtain ⟨q0, q1, q2, q3, q4, q5, hres, hsz, hbel⟩ := four_facts hb4
              obtain ⟨b6, o6, ha6, hc6, hx1, hx2⟩ := h6 j hlj
              have hidx6 := fun w => idx22 (cap := c6) ha6 hlj w
              have hc6' := cell_later hbel hc6
              generalize x6 j = x at hc6 hc6' hx1 hx2
              obtain ⟨r, hr4, hxr⟩ := rem4 x
              have hidxr := fun wz => idx26 (b := w.heap.size + 1 + 1) hxr hr4 wz
              have hcr := hres r hr4
              have hkey : keyOf Ybaf.prog 9 (.string (rnames.getD r ByteArray.empty)) = some (.string (rnames.getD r ByteArray.empty).data.toList) := keyOf_string_mk Ybaf.underlying9 (rnames_size r)
              generalize rnames.getD r ByteArray.empty = key at hcr hkey
              have hsq : w.heap.size + 1 + 1 + 1 + 1 ≠ w.heap.size + 1 + 1 + 1 := by omega
              clear ha6 hc6 hres q0 q1 q2 q3 q4 hxr
              by_cases hj7 : j < l7
              · obtain ⟨b7, o7, ha7, hc7, hwf7⟩ := h7 j hj7
                have hidx7 := fun w => idx23 (cap := c7) ha7 hj7 w
                have hc7' := cell_later hbel hc7
                generalize x7 j = z at hc7 hc7' hwf7
                have hnn := nonneg_mk (and_max_bd z).1 (and_max_bd z).2
                obtain ⟨w1, hrun, hown1, hgrow⟩ := World.ownsMap.update (World.ownsMap.drew hown) law9 Ybaf.underlying28 (by unfold maxLen; omega) hkey hnn
                have R2 := hb4.drew.grown hgrow hb4.drew.size (fun j hj => by cases hj; simp)
                clear ha7 hc7 hwf7 hnn hkey hown hgrow h6 h7
                go_wp2
                go_region
                go_wp2
                go_roundw
                case rel => exact ⟨j + 1, by omega, by go_num, R2, _, hown1⟩
                case measure => simp [intOf]; omega
              · have hnn := nonneg_mk (a := 0) (by decide) (by decide)
                obtain ⟨w1, hrun, hown1, hgrow⟩ := World.ownsMap.update (World.ownsMap.drew hown) law9 Ybaf.underlying28 (by unfold maxLen; omega) hkey hnn
                have R2 := hb4.drew.grown hgrow hb4.drew.size (fun j hj => by cases hj; simp)
                clear hnn hkey hown hgrow h6 h7
                go_wp2
                go_region
                go_wp2
                go_roundw
                case rel => exact ⟨j + 1, by omega, by go_num, R2, _, hown1⟩
                case measure => simp [intOf]; omega
            · clear h6 h7
              go_wp2_with fail
              go_meet
              exact ⟨_, hb4, Or.inr ⟨_, _, _, rfl, rfl, hown⟩⟩
        · rw [not_both hmr]
          go_wp2_with fail
          go_meet
          exact ⟨_, Below.refl _ _, Or.inl rfl⟩
      case rest =>
      obtain ⟨mm, hb4, hmm4⟩ := hcut
      clear h6 h7
      obtain ⟨q0, q1, q2, q3, q4, q5, hres, hsz, hbel⟩ := four_facts hb4
      have hne := eqlMap28
      have hta := ta40
      go_wp2_with fail
      refine (qform_all s pol sh rc t mm wc).mono ?_
      rintro e w1 ⟨rfl, rfl⟩
      have fin3 : ∀ o1 o2 o3 : Obj, Below wc.heap.size wc (((wc.alloc o1).alloc o2).alloc o3) := fun o1 o2 o3 => (((Below.refl _ wc).alloc (Nat.le_refl _) _).alloc (by simp) _).alloc (by simp; omega) _
      have hse : s.toList.isEmpty = false := not_empty hs0
      go_wp2_with fail
      refine (read_all s pol sh rc t mm wc.heap.size _ hse hs0 (by omega) hls ?_ hpol hkind ?_ ?_ ?_ ?_ ?_).mono ?_
      · exact hN.below (hbel.trans ((fin3 _ _ _).mono hbel.size))
      · rcases hmm4 with h | ⟨M, n, D, h1, h2, h3⟩
        · exact Or.inl h
        · exact Or.inr ⟨M, n, D, h1, h2, h3.below (fin3 _ _ _)⟩
      · simp [go_sem]
      · simp [go_sem]
      · simp [go_sem]
      · simp [go_sem]
      rintro e w2 ⟨rfl, hb⟩
      have hB2 : Below wc.heap.size wc w2 := (fin3 _ _ _).trans (hb.mono (by simp; omega))
      have hbw2 : Below w.heap.size w w2 := hbel.trans (hB2.mono hbel.size)
      have p0 := cell_old hB2 hsz q0
      have p1 := cell_old hB2 hsz q1
      have p2 := cell_old hB2 hsz q2
      have p3 := cell_old hB2 hsz q3
      have p4 := cell_old hB2 hsz q4
      have p5 := cell_old hB2 hsz q5
      have hres2 : ∀ r, r < 4 → w2.cell? ⟨w.heap.size + 1 + 1, r, none⟩ = some (.string (rnames.getD r ByteArray.empty)) := fun r hr => cell_later hB2 (hres r hr)
      have hm2 : mm = none ∨ ∃ M n D, mm = some M ∧ Owns w2 M n D := by
        rcases hmm4 with h | ⟨M, n, D, h1, h2, h3⟩
        · exact Or.inl h
        · exact Or.inr ⟨M, n, D, h1, h3.below hB2⟩
      have hQ : w.heap.size + 1 + 1 + 1 < w2.heap.size := Nat.lt_of_lt_of_le (by omega) hB2.size
      have hQ2 : w.heap.size + 1 + 1 < w2.heap.size := by omega
      clear hb hB2 q0 q1 q2 q3 q4 q5 hres hmm4 fin3 hb4 hkind hpol hls hN
      obtain ⟨ln, hln⟩ := len_any (own_alloc hm2 (.cells #[.string s, .string pol, .string sh, .bool rc, .int .i64 t, .map mm] 30))
      go_wp2
      clear hln
      go_loop [201] (fun i => ∃ j : Nat, j ≤ 4 ∧ i = .int .i64 j) (fun i => 4 - (intOf i).toNat)
      case atStart => exact ⟨0, Nat.zero_le _, rfl⟩
      case round =>
        obtain ⟨j, hj, rfl⟩ := hrel
        by_cases hlj : j < 4
        · as_aux_lemma =>
          have hidx := fun wz => idx26n (b := w.heap.size + 1 + 1) hlj wz
          have hcr := hres2 j hlj
          obtain ⟨c, ok, hlk⟩ := look_any (own_alloc hm2 (.cells #[.string s, .string pol, .string sh, .bool rc, .int .i64 t, .map mm] 30)) (rnames_size j)
          generalize rnames.getD j ByteArray.empty = key at hcr hlk
          clear hm2 hres2
          go_wp2
          go_round
          case rel => exact ⟨j + 1, by omega, by go_num⟩
          case measure => simp [intOf]; omega
        · go_wp2
          go_ret
          exact ⟨rfl, hbw2.alloc hbw2.size _⟩
end Go.Proofs.YbulkbtdoFmt
