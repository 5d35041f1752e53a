/-
  LawS3485CUpdate: the walk.
-/
import Derived.Test.YbulkbtdoUS
namespace Go.Proofs.Ybulkbtdo.U
open Go.RowKit
set_option maxRecDepth 100000
set_option maxHeartbeats 8000000 in
theorem update_any (a : Option Addr) (n c : Nat) (ra : Nat → Option Addr) (rl rc : Nat → Nat) (x : Nat → Nat → Nat) (ai : Option Addr) (li ci : Nat) (b : Nat → Bool) (al : Bool) (fl : Nat) (w : World) (h : RawAt w a n ra rl rc) (hx : U16At w n ra rl x) (hi : InAt w ai li b) (hli : li ≤ 9223372036854775807) (hn : n ≤ 9223372036854775807) (hr : ∀ i, i < n → rl i ≤ 9223372036854775807) (hfl : fl ≤ 65535) :
    Calls Yba.prog 5 #[.slice a n c, .slice ai li ci, .bool al, .int .u16 (fl : Int)] w fun e w' => e = .returned (.bool true) ∧ New w w' := by
  have HF : Hid (Calls Yba.prog 7 #[.slice a n c, .int .i64 (n : Int)] w fun e w' => w' = w ∧ RetB e (fun b => b = true → n ≤ 256 ∧ ∀ i, i < n → rl i ≤ 256)) := fits_any a n c ra rl rc w h hn hr
  have HS : Hid (n ≤ 256 → (∀ i, i < n → rl i ≤ 256) → Calls Yba.prog 8 #[.slice a n c, .slice ai li ci, .bool al] w (SetUp w n (memAt li b n) al)) := fun h1 h2 => setup_any a n c ra rl rc x ai li ci b al w h hx h1 h2 hi hli
  clear h hx hi hr
  go_enter Yba.func5, Yba.ntmps5
  go_wp2_with fail
  refine HF.out.mono ?_
  rintro e w' ⟨rfl, bb, rfl, hbb⟩
  cases bb with
  | false =>
    clear hbb
    go_wp2_with fail
    go_ret
    exact ⟨rfl, Chg.refl _ _⟩
  | true =>
    obtain ⟨h1, h2⟩ := hbb rfl
    have HS2 := HS.out h1 h2
    have HS3 : Hid (Calls Yba.prog 8 #[.slice a n c, .slice ai li ci, .bool al] w' (SetUp w' n (memAt li b n) al)) := HS2
    clear hbb h2 HS2 HS HF
    by_cases hn0 : n = 0
    · have t0 : ((n : Int) == 0) = true := by rw [hn0]; rfl
      clear hn0
      go_wp2_with fail
      go_ret
      exact ⟨rfl, Chg.refl _ _⟩
    · have t0 : ((n : Int) == 0) = false := by
        simp
        omega
      go_wp2_with fail
      refine HS3.out.mono ?_
      rintro e w2 ⟨G, N, nv, X, SB, MB, LB, l1, c1, f, rfl, hGn, htr, hf, hset, hsb, hmr, hMd, hnew, ⟨K, hK, hK8⟩, hgood, hgm, WB, words, V, hcl, hl1, hrw, hvb, hnw, hbt, hdl, hdw, hx1, hx2, hx3, hgw, hdd⟩
      subst hGn
      have hf0 := htr.forms hf
      obtain ⟨e0, e1, ⟨a2, n2, c2, e2⟩, e3, e4, e5, e6, ⟨a7, n7, c7, e7⟩, ⟨a8, n8, c8, e8⟩, ⟨a9, n9, c9, e9⟩, ⟨a10, n10, c10, e10⟩, e11⟩ := hf0
      have HL0 := lay (w := w') (c1 := c1) #[f 0, f 1, f 2, f 3, f 4, f 5, f 6, f 7, f 8, f 9, f 10, f 11] rfl htr hf hcl hl1 hrw hmr hvb hnw hbt hdl hdw hMd hx1 hx2 hx3 hnew hgm hgw hdd
      rw [e0, e1, e2, e3, e4, e5, e6, e7, e8, e9, e10, e11] at HL0 ⊢
      have hs256 : G.size ≤ 256 := htr.ok.s256
      have hns : G.n ≤ G.size := htr.ok.ns
      have HK : Hid (G.size = 2 ^ K) := hK
      have HGOOD : Hid (∀ r, 1 ≤ r → r < G.size → Good G N (memAt li b G.n) al X r) := hgood
      have HL : Hid (Laid w' ((w2.alloc (.cells #[.int .i64 (G.size : Int), .slice none 0 0, .slice a2 n2 c2, .slice (some ⟨G.GN, 0, none⟩) G.n G.n, .slice (some ⟨G.GL, 0, none⟩) (G.size - 1) (G.size - 1), .slice (some ⟨G.GW, 0, none⟩) ((G.size - 1) * 8) ((G.size - 1) * 8), .slice (some ⟨G.GO, 0, none⟩) (G.size - 1) (G.size - 1), .slice a7 n7 c7, .slice a8 n8 c8, .slice a9 n9 c9, .slice a10 n10 c10, .bool al] 51)).alloc (.cells #[.slice (some ⟨LB, 0, none⟩) l1 c1, .int .i64 0] 54)) { G with T := w2.heap.size, ow := fun k => G.ow k ∧ k ≠ w2.heap.size ∧ k ≠ w2.heap.size + 1 } N nv al X (w2.heap.size + 1) MB LB l1 c1 WB words V (memAt li b G.n)) := HL0
      clear HL0 e0 e1 e2 e3 e4 e5 e6 e7 e8 e9 e10 e11 htr hf hset hsb hmr hMd hnew hgood hK hcl hl1 hrw hvb hnw hbt hdl hdw hx1 hx2 hx3 hgw hdd hgm HS3 t0 h1
      go_upto_region 7 with fail
      generalize hW : (w2.alloc (.cells #[.int .i64 (G.size : Int), .slice none 0 0, .slice a2 n2 c2, .slice (some ⟨G.GN, 0, none⟩) G.n G.n, .slice (some ⟨G.GL, 0, none⟩) (G.size - 1) (G.size - 1), .slice (some ⟨G.GW, 0, none⟩) ((G.size - 1) * 8) ((G.size - 1) * 8), .slice (some ⟨G.GO, 0, none⟩) (G.size - 1) (G.size - 1), .slice a7 n7 c7, .slice a8 n8 c8, .slice a9 n9 c9, .slice a10 n10 c10, .bool al] 51)).alloc (.cells #[.slice (some ⟨LB, 0, none⟩) l1 c1, .int .i64 0] 54) = w3 at HL ⊢
      clear hW
      generalize hS : w2.heap.size + 1 = S' at HL ⊢
      generalize hT : w2.heap.size = T' at HL ⊢
      clear hS hT
      obtain ⟨G', hG'⟩ : ∃ G' : Geo, G' = { G with T := T', ow := fun k => G.ow k ∧ k ≠ T' ∧ k ≠ S' } := ⟨_, rfl⟩
      rw [← hG'] at HL
      have hGn : G.n = G'.n := by rw [hG']
      have hGs : G.size = G'.size := by rw [hG']
      have hGN : G.GN = G'.GN := by rw [hG']
      have hGT : T' = G'.T := by rw [hG']
      have HGD : Hid (∀ r, 1 ≤ r → r < G'.size → Good G' N (memAt li b G.n) al X r) := fun r h1 h2 => (HGOOD.out r h1 (by rw [hGs]; exact h2)).geo hGs.symm hGn.symm
      clear HGOOD hG'
      generalize memAt li b G.n = mem at *
      rw [hGn] at hn0 hns ⊢
      rw [hGs] at hs256 hns HK
      rw [hGN, hGT]
      clear hGn hGs hGN hGT
      have hg0 : fl % G'.n < G'.n := Nat.mod_lt _ (by omega)
      go_cut [14] (fun s14 wx => s14 = .int .i64 ((fl % G'.n : Nat) : Int) ∧ w3 = wx)
      case first =>
        go_wp2_with fail
        all_goals go_meet
        all_goals first | exact ⟨rfl, rfl⟩ | (refine ⟨?_, rfl⟩; congr 1)
      case rest =>
      obtain ⟨rfl, rfl⟩ := hcut
      generalize hge : fl % G'.n = g at *
      clear hge
      have hm0 := HL.out.rm.cell hg0
      have hmf := HL.out.rm.frozen g
      have HP : Hid (Poked w3 (w3.setCell ⟨MB, g, none⟩ (.bool (!mem g))) G' S' MB LB l1 c1 WB words V mem g) := HL.out.poked hg0
      go_upto_region 9 with fail
      generalize hws : w3.setCell ⟨MB, g, none⟩ (.bool (!mem g)) = ws at *
      clear hws hm0 hmf
      have hw64 : g / 64 < words := by have := HL.out.nw; omega
      have hs0 := HP.out.cs
      have hl0 := HP.out.cl
      have hv0 := HP.out.rw.cell hw64
      have hvf := HP.out.rw.frozen (g / 64)
      have hl1 := HL.out.l1
      have HFL : Hid (Flipped w' (ws.setCell ⟨WB, g / 64, none⟩ (.int .u64 (bits .xor .u64 (V (g / 64) : Int) (IntKind.u64.wrap (2 ^ (g % 64)))))) G' N nv al X S' MB (flipM mem g)) := HL.out.flipped hg0 HP.out
      have hmod : (g : Int) % 64 % 18446744073709551616 = (g : Int) % 64 := by omega
      go_upto_region 10 with fail
      generalize hwb : ws.setCell ⟨WB, g / 64, none⟩ (.int .u64 (bits .xor .u64 (V (g / 64) : Int) (IntKind.u64.wrap (2 ^ (g % 64))))) = wb at *
      clear hwb hs0 hl0 hv0 hvf hl1 hmod HP
      have ht0 := HFL.out.tr.tc.c0
      have HST := Flip.start (g := g) hs256 HGD.out
      have HDM : Hid (¬ Dt G' MB) := HL.out.dm
      have HDD : Hid (∀ k, k < w'.heap.size → ¬ Dt G' k) := HL.out.dd
      clear HL
      go_wp2_with fail
      go_loopw [15, 16] (fun s15 s16 wr => Upward w' G' N nv al S' MB mem g s15 s16 wr) (fun _ s16 _ => (intOf s16).toNat)
      case atStart => exact ⟨X, (G'.size + g) / 2, true, rfl, by go_num, by omega, HFL.out, HST⟩
      case round =>
        clear HFL HST ht0
        obtain ⟨X1, r, ch, rfl, rfl, hr2, hfl1, hflip⟩ := hrel
        have HFL1 : Hid (Flipped w' wr G' N nv al X1 S' MB (flipM mem g)) := hfl1
        have HFLIP : Hid (Flip G' N mem (flipM mem g) g al X1 r ch) := hflip
        clear hfl1 hflip
        by_cases hgo : 1 ≤ r ∧ ch = true
        · obtain ⟨hr1, rfl⟩ := hgo
          have HSM : Hid (Calls Yba.prog 10 #[.pointer (some ⟨G'.T, 0, none⟩), .pointer (some ⟨S', 0, none⟩), .int .i64 (r : Int)] wr (Summed wr G' N nv al X1 (r - 1) (rangeIn G' (flipM mem g) X1 (2 * r) || rangeIn G' (flipM mem g) X1 (2 * r + 1)) (comb (rangeIn G' (flipM mem g) X1 (2 * r)) (rangeIn G' (flipM mem g) X1 (2 * r + 1)) (rangeLe G' N (flipM mem g) X1 (2 * r)) (rangeLe G' N (flipM mem g) X1 (2 * r + 1))))) := sumNeeds_any G' N nv al X1 S' r _ wr HFL1.out.tr HFL1.out.st hr1 hr2
          have tr1 : decide ((1 : Int) ≤ (r : Int)) = true := decide_eq_true (by omega)
          go_wp2_with fail
          refine HSM.out.mono ?_
          intro e w9 hsum
          have hsum' := summed_good hs256 hr1 hr2 (fun h => HFLIP.out.2.2.1 _ (by omega) h (.inr (by omega))) (fun h => HFLIP.out.2.2.1 _ (by omega) h (.inr (by omega))) hsum
          obtain ⟨X', ⟨ch', rfl, hch'⟩, ht, hc, hk, hg⟩ := hsum'
          have HRL : Hid (Flipped w' w9 G' N nv al X' S' MB (flipM mem g) ∧ Flip G' N mem (flipM mem g) g al X' (r / 2) ch') := ⟨HFL1.out.step ht hc HDM.out HDD.out, HFLIP.out.step hs256 hr1 hr2 hk hg hch'⟩
          clear ht hc hk hg hsum HSM hch' tr1
          go_wp2_with fail
          go_roundw
          case rel => exact ⟨X', r / 2, ch', rfl, by go_num, by omega, HRL.out.1, HRL.out.2⟩
          case measure => simp [intOf]; omega
        · have HDONE : Hid (∀ q, 1 ≤ q → q < G'.size → Good G' N (flipM mem g) al X1 q) := HFLIP.out.done (by
            cases ch
            · exact .inr rfl
            · exact .inl (by have : ¬ 1 ≤ r := fun e => hgo ⟨e, rfl⟩
                             omega))
          have HCK : Hid (Calls Yba.prog 9 #[.pointer (some ⟨G'.T, 0, none⟩), .slice (some ⟨G'.GN, 0, none⟩) G'.n G'.n, .slice (some ⟨MB, 0, none⟩) G'.n G'.n, .bool al] wr fun e w' => e = .returned (.bool true) ∧ New wr w') :=
            check_any G' G'.T MB N nv X1.lv X1 (flipM mem g) al wr K HFL1.out.seen HFL1.out.tr.ok.n256 HK.out hK8 HDONE.out
          have HNW : Hid (New w' wr) := HFL1.out.nn
          clear HDONE HFL1 HFLIP HGD
          have hstop : r = 0 ∨ ch = false := by
            cases ch
            · exact .inr rfl
            · exact .inl (by have : ¬ 1 ≤ r := fun e => hgo ⟨e, rfl⟩
                             omega)
          clear hgo
          rcases hstop with rfl | rfl
          · go_wp2_with fail
            refine HCK.out.mono ?_
            rintro e w5 ⟨rfl, hn5⟩
            have HE : Hid (New w' w5) := HNW.out.new hn5
            clear hn5 HCK
            go_wp2_with fail
            go_ret
            exact ⟨rfl, HE.out⟩
          · by_cases hr1 : 1 ≤ r
            · have tr1 : decide ((1 : Int) ≤ (r : Int)) = true := decide_eq_true (by omega)
              go_wp2_with fail
              refine HCK.out.mono ?_
              rintro e w5 ⟨rfl, hn5⟩
              have HE : Hid (New w' w5) := HNW.out.new hn5
              clear hn5 HCK
              go_wp2_with fail
              go_ret
              exact ⟨rfl, HE.out⟩
            · have tr1 : decide ((1 : Int) ≤ (r : Int)) = false := decide_eq_false (by omega)
              go_wp2_with fail
              refine HCK.out.mono ?_
              rintro e w5 ⟨rfl, hn5⟩
              have HE : Hid (New w' w5) := HNW.out.new hn5
              clear hn5 HCK
              go_wp2_with fail
              go_ret
              exact ⟨rfl, HE.out⟩
end Go.Proofs.Ybulkbtdo.U
