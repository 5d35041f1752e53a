/-
  LawS3485CUpdate: the world behind setup, the two stores, the way up.
-/
import Derived.Test.YbulkbtdoUR
namespace Go.Proofs.Ybulkbtdo.U
open Go.RowKit
set_option maxRecDepth 100000
theorem Tree.forms {w : World} {G : Geo} {N : Nat → Am} {nv : Nat → Value} {al : Bool} {X : Cur} (h : Tree w G N nv al X) {f : Nat → Value} (hf : RowIs w G.T 51 12 f) :
    f 0 = .int .i64 (G.size : Int) ∧ f 1 = .slice none 0 0 ∧ (∃ a n c, f 2 = .slice a n c) ∧ f 3 = .slice (some ⟨G.GN, 0, none⟩) G.n G.n ∧ f 4 = .slice (some ⟨G.GL, 0, none⟩) (G.size - 1) (G.size - 1) ∧ f 5 = .slice (some ⟨G.GW, 0, none⟩) ((G.size - 1) * 8) ((G.size - 1) * 8) ∧ f 6 = .slice (some ⟨G.GO, 0, none⟩) (G.size - 1) (G.size - 1) ∧ (∃ a n c, f 7 = .slice a n c) ∧ (∃ a n c, f 8 = .slice a n c) ∧ (∃ a n c, f 9 = .slice a n c) ∧ (∃ a n c, f 10 = .slice a n c) ∧ f 11 = .bool al := by
  obtain ⟨g, hg, e0, e1, e3, e4, e5, e6, e10, e11⟩ := h.tr
  have e : ∀ k, k < 12 → f k = g k := fun k hk => by
    have h1 := hf.cell hk
    rw [hg.cell hk] at h1
    exact (Option.some.inj h1).symm
  have x : ∀ k, k = 2 ∨ k = 7 ∨ k = 8 ∨ k = 9 → ∃ a n c, f k = .slice a n c := fun k hk => by
    obtain ⟨a, n, c, h1⟩ := h.tx k hk
    rw [hf.cell (i := k) (by omega)] at h1
    exact ⟨a, n, c, Option.some.inj h1⟩
  obtain ⟨a10, c10, evr, _⟩ := h.rr.1.form
  exact ⟨by rw [e 0 (by decide), e0], by rw [e 1 (by decide), e1], x 2 (by decide), by rw [e 3 (by decide), e3], by rw [e 4 (by decide), e4], by rw [e 5 (by decide), e5], by rw [e 6 (by decide), e6], x 7 (by decide), x 8 (by decide), x 9 (by decide), ⟨a10, _, c10, by rw [e 10 (by decide), e10, evr]⟩, by rw [e 11 (by decide), e11]⟩
/-- the world behind setup and the two copies -/
structure Laid (w W : World) (G : Geo) (N : Nat → Am) (nv : Nat → Value) (al : Bool) (X : Cur) (S MB LB l1 c1 WB words : Nat) (V : Nat → Nat) (mem : Nat → Bool) : Prop where
  tr : Tree W G N nv al X
  cs : W.cell? ⟨S, 0, none⟩ = some (.slice (some ⟨LB, 0, none⟩) l1 c1)
  cl : W.cell? ⟨LB, 0, none⟩ = some (.slice (some ⟨WB, 0, none⟩) words words)
  l1 : 0 < l1
  rw : RowIs W WB 61 words (fun j => .int .u64 (V j : Int))
  rm : RowIs W MB 4 G.n (fun k => .bool (mem k))
  vb : ∀ j, j < words → V j < 18446744073709551616
  nw : G.n ≤ 64 * words
  bt : ∀ k, k < G.n → (V (k / 64)).testBit (k % 64) = mem k
  ds : ¬ Dt G S
  dl : ¬ Dt G LB
  dw : ¬ Dt G WB
  dm : ¬ Dt G MB
  x1 : S ≠ MB ∧ S ≠ WB ∧ LB ≠ MB ∧ LB ≠ WB ∧ WB ≠ MB
  nn : New w W
  gm : w.heap.size ≤ MB
  gw : w.heap.size ≤ WB
  dd : ∀ k, k < w.heap.size → ¬ Dt G k
theorem cell_lt {w : World} {b j : Nat} {u : Value} (h : w.cell? ⟨b, j, none⟩ = some u) : b < w.heap.size := by
  rcases Nat.lt_or_ge b w.heap.size with hb | hb
  · exact hb
  · simp only [World.cell?] at h
    rw [Array.getElem?_eq_none hb] at h
    cases h
theorem lay {w w2 : World} {G : Geo} {N : Nat → Am} {nv : Nat → Value} {al : Bool} {X : Cur} {MB LB l1 c1 WB words : Nat} {V : Nat → Nat} {mem : Nat → Bool} {f : Nat → Value} (C : Array Value) (hC : C = #[f 0, f 1, f 2, f 3, f 4, f 5, f 6, f 7, f 8, f 9, f 10, f 11])
    (tr : Tree w2 G N nv al X) (hf : RowIs w2 G.T 51 12 f) (cl : w2.cell? ⟨LB, 0, none⟩ = some (.slice (some ⟨WB, 0, none⟩) words words)) (hl1 : 0 < l1) (hrw : RowIs w2 WB 61 words (fun j => .int .u64 (V j : Int))) (rm : RowIs w2 MB 4 G.n (fun k => .bool (mem k)))
    (vb : ∀ j, j < words → V j < 18446744073709551616) (nw : G.n ≤ 64 * words) (bt : ∀ k, k < G.n → (V (k / 64)).testBit (k % 64) = mem k) (dl : ¬ Dt G LB) (dw : ¬ Dt G WB) (dm : ¬ Dt G MB) (x1 : LB ≠ WB) (x2 : LB ≠ MB) (x3 : WB ≠ MB) (nn : New w w2) (gm : w.heap.size ≤ MB) (gw : w.heap.size ≤ WB) (dd : ∀ k, k < w.heap.size → ¬ Dt G k) :
    Laid w ((w2.alloc (.cells C 51)).alloc (.cells #[.slice (some ⟨LB, 0, none⟩) l1 c1, .int .i64 0] 54)) { G with T := w2.heap.size, ow := fun k => G.ow k ∧ k ≠ w2.heap.size ∧ k ≠ w2.heap.size + 1 } N nv al X (w2.heap.size + 1) MB LB l1 c1 WB words V mem := by
  have hn : New w2 ((w2.alloc (.cells C 51)).alloc (.cells #[.slice (some ⟨LB, 0, none⟩) l1 c1, .int .i64 0] 54)) := ((Chg.refl _ w2).alloc _).alloc _
  have hs1 : (w2.alloc (.cells C 51)).heap.size = w2.heap.size + 1 := by simp
  have r1 := (RowIs.made w2 C 51).chg ((Chg.refl (fun _ => False) _).alloc (.cells #[.slice (some ⟨LB, 0, none⟩) l1 c1, .int .i64 0] 54)) (fun h => h)
  have r2 := RowIs.made (w2.alloc (.cells C 51)) #[.slice (some ⟨LB, 0, none⟩) l1 c1, .int .i64 0] 54
  rw [hs1] at r2
  have h2 := r2.lt
  obtain ⟨e0, e1, ⟨a2, n2, c2, e2⟩, e3, e4, e5, e6, ⟨a7, n7, c7, e7⟩, ⟨a8, n8, c8, e8⟩, ⟨a9, n9, c9, e9⟩, ⟨a10, n10, c10, e10⟩, e11⟩ := tr.forms hf
  have evr : f 10 = X.vr := by
    obtain ⟨g, hg, _, _, _, _, _, _, e10', _⟩ := tr.tr
    have h1 := hf.cell (i := 10) (by decide)
    rw [hg.cell (by decide)] at h1
    rw [← e10', (Option.some.inj h1)]
  have hCs : C.size = 12 := by rw [hC]; rfl
  rw [hCs] at r1
  have tr' := tr.copy (T := w2.heap.size) (S := w2.heap.size + 1) hn r1 (Nat.le_refl _) (Nat.le_succ _) h2 (by rw [hC]; exact ⟨e0, e1, e3, e4, e5, e6, evr, e11⟩) (fun k hk => by
    rw [hC]
    rcases hk with rfl | rfl | rfl | rfl
    · exact ⟨a2, n2, c2, e2⟩
    · exact ⟨a7, n7, c7, e7⟩
    · exact ⟨a8, n8, c8, e8⟩
    · exact ⟨a9, n9, c9, e9⟩)
  have hd : ∀ b, b ≠ w2.heap.size → ¬ Dt G b → ¬ Dt { G with T := w2.heap.size, ow := fun k => G.ow k ∧ k ≠ w2.heap.size ∧ k ≠ w2.heap.size + 1 } b := fun b h1 h2 h => by
    rcases h with h | h | h | h | h
    · exact h1 h
    · exact h2 (.inr (.inl h))
    · exact h2 (.inr (.inr (.inl h)))
    · exact h2 (.inr (.inr (.inr (.inl h))))
    · exact h2 (.inr (.inr (.inr (.inr h.1))))
  have lLB := cell_lt cl
  have lWB := hrw.lt
  have lMB := rm.lt
  have lGL := tr.lr.lt
  have lGW := tr.wr.lt
  have lGO := tr.or.lt
  have hnw := nn.size
  refine ⟨tr', r2.cell (i := 0) (by show 0 < 2; decide), hn.cell cl (fun h => h), hl1, hrw.chg hn (fun h => h), rm.chg hn (fun h => h), vb, nw, bt, fun h => ?_, hd _ (by omega) dl, hd _ (by omega) dw, hd _ (by omega) dm, ⟨by omega, by omega, x2, x1, x3⟩, nn.new hn, gm, gw, fun k hk => hd k (by omega) (dd k hk)⟩
  rcases h with h | h | h | h | h
  · have h' : w2.heap.size + 1 = w2.heap.size := h
    omega
  · have h' : w2.heap.size + 1 = G.GL := h
    omega
  · have h' : w2.heap.size + 1 = G.GW := h
    omega
  · have h' : w2.heap.size + 1 = G.GO := h
    omega
  · exact h.2.2 rfl
/-- the first store -/
structure Poked (W ws : World) (G : Geo) (S MB LB l1 c1 WB words : Nat) (V : Nat → Nat) (mem : Nat → Bool) (g : Nat) : Prop where
  ch : Chg (fun k => k = MB) W ws
  cs : ws.cell? ⟨S, 0, none⟩ = some (.slice (some ⟨LB, 0, none⟩) l1 c1)
  cl : ws.cell? ⟨LB, 0, none⟩ = some (.slice (some ⟨WB, 0, none⟩) words words)
  rw : RowIs ws WB 61 words (fun j => .int .u64 (V j : Int))
  rm : RowIs ws MB 4 G.n (fun k => .bool (flipM mem g k))
theorem Laid.poked {w W : World} {G : Geo} {N : Nat → Am} {nv : Nat → Value} {al : Bool} {X : Cur} {S MB LB l1 c1 WB words : Nat} {V : Nat → Nat} {mem : Nat → Bool} (h : Laid w W G N nv al X S MB LB l1 c1 WB words V mem) {g : Nat} (hg : g < G.n) :
    Poked W (W.setCell ⟨MB, g, none⟩ (.bool (!mem g))) G S MB LB l1 c1 WB words V mem g := by
  have c : Chg (fun k => k = MB) W (W.setCell ⟨MB, g, none⟩ (.bool (!mem g))) := Chg.set (D := fun k => k = MB) (Chg.refl _ W) (fun _ => rfl) _
  refine ⟨c, c.cell h.cs h.x1.1, c.cell h.cl h.x1.2.2.1, h.rw.chg c h.x1.2.2.2.2, (h.rm.set hg _).ext fun k _ => ?_⟩
  unfold flipM
  by_cases e : k = g
  · subst e
    rw [if_pos rfl, if_pos rfl]
  · rw [if_neg e, if_neg e]
/-- the world behind both stores -/
structure Flipped (w wr : World) (G : Geo) (N : Nat → Am) (nv : Nat → Value) (al : Bool) (X : Cur) (S MB : Nat) (mem' : Nat → Bool) : Prop where
  tr : Tree wr G N nv al X
  st : SetAt wr G S mem'
  rm : RowIs wr MB 4 G.n (fun k => .bool (mem' k))
  nn : New w wr
theorem Laid.flipped {w W ws : World} {G : Geo} {N : Nat → Am} {nv : Nat → Value} {al : Bool} {X : Cur} {S MB LB l1 c1 WB words : Nat} {V : Nat → Nat} {mem : Nat → Bool} (h : Laid w W G N nv al X S MB LB l1 c1 WB words V mem) {g : Nat} (hg : g < G.n) (hp : Poked W ws G S MB LB l1 c1 WB words V mem g) :
    Flipped w (ws.setCell ⟨WB, g / 64, none⟩ (.int .u64 (bits .xor .u64 (V (g / 64) : Int) (IntKind.u64.wrap (2 ^ (g % 64)))))) G N nv al X S MB (flipM mem g) := by
  have hw : g / 64 < words := by have := h.nw; omega
  obtain ⟨ex, hx⟩ := xor_bit (V (g / 64)) (g % 64) (h.vb _ hw) (Nat.mod_lt _ (by decide))
  rw [ex]
  have c : Chg (fun k => k = WB) ws (ws.setCell ⟨WB, g / 64, none⟩ (.int .u64 ((V (g / 64) ^^^ 2 ^ (g % 64) : Nat) : Int))) := Chg.set (D := fun k => k = WB) (Chg.refl _ ws) (fun _ => rfl) _
  have hr : RowIs (ws.setCell ⟨WB, g / 64, none⟩ (.int .u64 ((V (g / 64) ^^^ 2 ^ (g % 64) : Nat) : Int))) WB 61 words (fun j => .int .u64 (((fun j => if j = g / 64 then V (g / 64) ^^^ 2 ^ (g % 64) else V j) j : Nat) : Int)) := (hp.rw.set hw _).ext fun j _ => by
    show _ = Value.int .u64 (((if j = g / 64 then V (g / 64) ^^^ 2 ^ (g % 64) else V j : Nat)) : Int)
    by_cases e : j = g / 64
    · rw [if_pos e, if_pos e]
    · rw [if_neg e, if_neg e]
  have t1 := h.tr.poke hp.ch h.rm h.dm (by decide) (fun j z e => by cases e)
  have t2 := t1.poke c hp.rw h.dw (by decide) (fun j z e => by cases e)
  refine ⟨t2, ⟨LB, WB, l1, c1, words, words, fun j => if j = g / 64 then V (g / 64) ^^^ 2 ^ (g % 64) else V j, c.cell hp.cs h.x1.2.1, h.l1, c.cell hp.cl h.x1.2.2.2.1, h.nw, fun j hj => ⟨hr.cell hj, ?_⟩, flip_bit h.bt, h.ds, h.dl, h.dw⟩, hp.rm.chg c (fun e => h.x1.2.2.2.2 e.symm), New.of_chg (New.of_chg h.nn hp.ch (fun b e => by rw [e]; exact h.gm)) c (fun b e => by rw [e]; exact h.gw)⟩
  show (if j = g / 64 then V (g / 64) ^^^ 2 ^ (g % 64) else V j) < _
  split
  · exact hx
  · exact h.vb j hj
/-- the way up, in memory -/
def Upward (w : World) (G : Geo) (N : Nat → Am) (nv : Nat → Value) (al : Bool) (S MB : Nat) (mem : Nat → Bool) (g : Nat) (s15 s16 : Value) (wr : World) : Prop :=
  ∃ (X : Cur) (r : Nat) (ch : Bool), s15 = .bool ch ∧ s16 = .int .i64 (r : Int) ∧ r < G.size ∧ Flipped w wr G N nv al X S MB (flipM mem g) ∧ Flip G N mem (flipM mem g) g al X r ch
theorem Flipped.step {w wr w' : World} {G : Geo} {N : Nat → Am} {nv : Nat → Value} {al : Bool} {X X' : Cur} {S MB : Nat} {mem' : Nat → Bool} (h : Flipped w wr G N nv al X S MB mem') (ht : Tree w' G N nv al X') (hc : Chg (Dt G) wr w') (dm : ¬ Dt G MB) (dd : ∀ k, k < w.heap.size → ¬ Dt G k) : Flipped w w' G N nv al X' S MB mem' :=
  ⟨ht, h.st.chg hc, h.rm.chg hc dm, New.of_chg h.nn hc (fun b hb => by
    rcases Nat.lt_or_ge b w.heap.size with e | e
    · exact absurd hb (dd b e)
    · exact e)⟩
theorem Flipped.seen {w wr : World} {G : Geo} {N : Nat → Am} {nv : Nat → Value} {al : Bool} {X : Cur} {S MB : Nat} {mem' : Nat → Bool} (h : Flipped w wr G N nv al X S MB mem') : Seen wr G G.T MB N nv X.lv X.Le X.lo mem' :=
  ⟨h.tr.tc.c0, h.tr.tc.c4, h.tr.tc.c6, h.tr.lr, fun k hk => (h.tr.la k hk).amv, h.tr.or, h.tr.nr, h.tr.na, h.tr.no, h.rm⟩
end Go.Proofs.Ybulkbtdo.U
