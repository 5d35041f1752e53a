/-
  LawS3485CFull.
-/
import Derived.Test.YbulkbtdoCQ
namespace Go.Proofs.Ybulkbtdo.C
open Go.RowKit
set_option maxRecDepth 100000
theorem Tree.forms {w : World} {G : Geo} {N : Nat → Am} {nv : Nat → Value} {al : Bool} {X : Cur} (h : Tree w G N nv al X) {f : Nat → Value} (hf : RowIs w G.T 51 12 f) :
    f 0 = .int .i64 (G.size : Int) ∧ f 1 = .slice none 0 0 ∧ (∃ a n c, f 2 = .slice a n c) ∧ f 3 = .slice (some ⟨G.GN, 0, none⟩) G.n G.n ∧ f 4 = .slice (some ⟨G.GL, 0, none⟩) (G.size - 1) (G.size - 1) ∧ f 5 = .slice (some ⟨G.GW, 0, none⟩) ((G.size - 1) * 8) ((G.size - 1) * 8) ∧ f 6 = .slice (some ⟨G.GO, 0, none⟩) (G.size - 1) (G.size - 1) ∧ (∃ a n c, f 7 = .slice a n c) ∧ (∃ a n c, f 8 = .slice a n c) ∧ (∃ a n c, f 9 = .slice a n c) ∧ (∃ a n c, f 10 = .slice a n c) ∧ f 11 = .bool al := by
  obtain ⟨g, hg, e0, e1, e3, e4, e5, e6, e10, e11⟩ := h.tr
  have e : ∀ k, k < 12 → f k = g k := fun k hk => by
    have h1 := hf.cell hk
    rw [hg.cell hk] at h1
    exact (Option.some.inj h1).symm
  have x : ∀ k, k = 2 ∨ k = 7 ∨ k = 8 ∨ k = 9 → ∃ a n c, f k = .slice a n c := fun k hk => by
    obtain ⟨a, n, c, h1⟩ := h.tx k hk
    rw [hf.cell (i := k) (by omega)] at h1
    exact ⟨a, n, c, Option.some.inj h1⟩
  obtain ⟨a10, c10, evr, _⟩ := h.rr.form
  exact ⟨by rw [e 0 (by decide), e0], by rw [e 1 (by decide), e1], x 2 (by decide), by rw [e 3 (by decide), e3], by rw [e 4 (by decide), e4], by rw [e 5 (by decide), e5], by rw [e 6 (by decide), e6], x 7 (by decide), x 8 (by decide), x 9 (by decide), ⟨a10, _, c10, by rw [e 10 (by decide), e10, evr]⟩, by rw [e 11 (by decide), e11]⟩
set_option maxHeartbeats 4000000 in
theorem full_any (a : Option Addr) (n c : Nat) (ra : Nat → Option Addr) (rl rc : Nat → Nat) (x : Nat → Nat → Nat) (ai : Option Addr) (li ci : Nat) (b : Nat → Bool) (al : Bool) (w : World) (h : RawAt w a n ra rl rc) (hx : U16At w n ra rl x) (hi : InAt w ai li b) (hli : li ≤ 9223372036854775807) (hn : n ≤ 9223372036854775807) (hr : ∀ i, i < n → rl i ≤ 9223372036854775807) :
    Calls Yba.prog 4 #[.slice a n c, .slice ai li ci, .bool al] w fun e w' => e = .returned (.bool true) ∧ New w w' := by
  have HF : Hid (Calls Yba.prog 7 #[.slice a n c, .int .i64 (n : Int)] w fun e w' => w' = w ∧ RetB e (fun b => b = true → n ≤ 256 ∧ ∀ i, i < n → rl i ≤ 256)) := fits_any a n c ra rl rc w h hn hr
  have HS : Hid (n ≤ 256 → (∀ i, i < n → rl i ≤ 256) → Calls Yba.prog 8 #[.slice a n c, .slice ai li ci, .bool al] w (SetUp w n (memAt li b n) al)) := fun h1 h2 => setup_any a n c ra rl rc x ai li ci b al w h hx h1 h2 hi hli
  clear h hx hi hr
  go_enter Yba.func4, Yba.ntmps4
  go_wp2_with fail
  refine HF.out.mono ?_
  rintro e w' ⟨rfl, bb, rfl, hbb⟩
  cases bb with
  | false =>
    clear hbb
    go_wp2_with fail
    go_ret
    exact ⟨rfl, Chg.refl _ _⟩
  | true =>
    obtain ⟨h1, h2⟩ := hbb rfl
    have HS2 := HS.out h1 h2
    have HS3 : Hid (Calls Yba.prog 8 #[.slice a n c, .slice ai li ci, .bool al] w' (SetUp w' n (memAt li b n) al)) := HS2
    clear hbb h2 HS2 HS HF
    go_wp2_with fail
    refine HS3.out.mono ?_
    rintro e w2 ⟨G, N, nv, X, SB, MB, LB, l1, c1, f, rfl, hGn, htr, hf, hset, hsb, hmr, hMd, hnew, ⟨K, hK, hK8⟩, hgood, _⟩
    obtain ⟨e0, e1, ⟨a2, n2, c2, e2⟩, e3, e4, e5, e6, ⟨a7, n7, c7, e7⟩, ⟨a8, n8, c8, e8⟩, ⟨a9, n9, c9, e9⟩, ⟨a10, n10, c10, e10⟩, e11⟩ := htr.forms hf
    rw [e0, e1, e2, e3, e4, e5, e6, e7, e8, e9, e10, e11]
    subst hGn
    have HN3 : Hid (New w2 ((w2.alloc (.cells #[.int .i64 (G.size : Int), .slice none 0 0, .slice a2 n2 c2, .slice (some ⟨G.GN, 0, none⟩) G.n G.n, .slice (some ⟨G.GL, 0, none⟩) (G.size - 1) (G.size - 1), .slice (some ⟨G.GW, 0, none⟩) ((G.size - 1) * 8) ((G.size - 1) * 8), .slice (some ⟨G.GO, 0, none⟩) (G.size - 1) (G.size - 1), .slice a7 n7 c7, .slice a8 n8 c8, .slice a9 n9 c9, .slice a10 n10 c10, .bool al] 51)).alloc (.cells #[.slice (some ⟨LB, 0, none⟩) l1 c1, .int .i64 0] 54))) := ((Chg.refl _ w2).alloc _).alloc _
    have hrT := (RowIs.made w2 #[.int .i64 (G.size : Int), .slice none 0 0, .slice a2 n2 c2, .slice (some ⟨G.GN, 0, none⟩) G.n G.n, .slice (some ⟨G.GL, 0, none⟩) (G.size - 1) (G.size - 1), .slice (some ⟨G.GW, 0, none⟩) ((G.size - 1) * 8) ((G.size - 1) * 8), .slice (some ⟨G.GO, 0, none⟩) (G.size - 1) (G.size - 1), .slice a7 n7 c7, .slice a8 n8 c8, .slice a9 n9 c9, .slice a10 n10 c10, .bool al] 51).chg ((Chg.refl (fun _ => False) _).alloc (.cells #[.slice (some ⟨LB, 0, none⟩) l1 c1, .int .i64 0] 54)) (fun h => h)
    have HSEEN : Hid (Seen ((w2.alloc (.cells #[.int .i64 (G.size : Int), .slice none 0 0, .slice a2 n2 c2, .slice (some ⟨G.GN, 0, none⟩) G.n G.n, .slice (some ⟨G.GL, 0, none⟩) (G.size - 1) (G.size - 1), .slice (some ⟨G.GW, 0, none⟩) ((G.size - 1) * 8) ((G.size - 1) * 8), .slice (some ⟨G.GO, 0, none⟩) (G.size - 1) (G.size - 1), .slice a7 n7 c7, .slice a8 n8 c8, .slice a9 n9 c9, .slice a10 n10 c10, .bool al] 51)).alloc (.cells #[.slice (some ⟨LB, 0, none⟩) l1 c1, .int .i64 0] 54)) G w2.heap.size MB N nv X.lv X.Le X.lo (memAt li b G.n)) := by
      have hn := HN3.out
      exact ⟨hrT.cell (i := 0) (by show 0 < 12; decide), hrT.cell (i := 4) (by show 4 < 12; decide), hrT.cell (i := 6) (by show 6 < 12; decide), htr.lr.chg hn (fun h => h), fun k hk => (htr.la k hk).amv.new hn, htr.or.chg hn (fun h => h), htr.nr.chg hn (fun h => h), fun i hi => (htr.na i hi).new hn, htr.no, hmr.chg hn (fun h => h)⟩
    have HNEW : Hid (New w' w2) := hnew
    have HCK : Hid (Calls Yba.prog 9 #[.pointer (some ⟨w2.heap.size, 0, none⟩), .slice (some ⟨G.GN, 0, none⟩) G.n G.n, .slice (some ⟨MB, 0, none⟩) G.n G.n, .bool al] ((w2.alloc (.cells #[.int .i64 (G.size : Int), .slice none 0 0, .slice a2 n2 c2, .slice (some ⟨G.GN, 0, none⟩) G.n G.n, .slice (some ⟨G.GL, 0, none⟩) (G.size - 1) (G.size - 1), .slice (some ⟨G.GW, 0, none⟩) ((G.size - 1) * 8) ((G.size - 1) * 8), .slice (some ⟨G.GO, 0, none⟩) (G.size - 1) (G.size - 1), .slice a7 n7 c7, .slice a8 n8 c8, .slice a9 n9 c9, .slice a10 n10 c10, .bool al] 51)).alloc (.cells #[.slice (some ⟨LB, 0, none⟩) l1 c1, .int .i64 0] 54)) fun e w' => e = .returned (.bool true) ∧ New ((w2.alloc (.cells #[.int .i64 (G.size : Int), .slice none 0 0, .slice a2 n2 c2, .slice (some ⟨G.GN, 0, none⟩) G.n G.n, .slice (some ⟨G.GL, 0, none⟩) (G.size - 1) (G.size - 1), .slice (some ⟨G.GW, 0, none⟩) ((G.size - 1) * 8) ((G.size - 1) * 8), .slice (some ⟨G.GO, 0, none⟩) (G.size - 1) (G.size - 1), .slice a7 n7 c7, .slice a8 n8 c8, .slice a9 n9 c9, .slice a10 n10 c10, .bool al] 51)).alloc (.cells #[.slice (some ⟨LB, 0, none⟩) l1 c1, .int .i64 0] 54)) w') :=
      check_any G w2.heap.size MB N nv X.lv X (memAt li b G.n) al _ K HSEEN.out htr.ok.n256 hK hK8 hgood
    clear e0 e1 e2 e3 e4 e5 e6 e7 e8 e9 e10 e11 hrT htr hf hset hsb hmr hMd hnew hgood hK HSEEN
    go_wp2_with fail
    refine HCK.out.mono ?_
    rintro e w5 ⟨rfl, hn5⟩
    have HE : Hid (New w' w5) := (HNEW.out.new HN3.out).new hn5
    clear hn5 HCK
    go_wp2_with fail
    go_ret
    exact ⟨rfl, HE.out⟩
end Go.Proofs.Ybulkbtdo.C
