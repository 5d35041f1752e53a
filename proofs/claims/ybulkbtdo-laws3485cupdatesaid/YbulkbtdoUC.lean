/-
  THE TREE IN MEMORY, and the small functions that read it: group, has, leaf, need, rangeLeast; sumHeld.
-/
import Derived.Test.YbulkbtdoUB
namespace Go.Proofs.Ybulkbtdo.U
open Go.RowKit
set_option maxRecDepth 100000
/-- where the tree lies: ow: blocks that may be the tree's own rows; T: the struct; GN: the needs; GL: the least; GW: the lowest; GO: the lows -/
structure Geo where
  (ow : Nat → Prop)
  (T GN GL GW GO n size : Nat)
/-- what the tree holds: the least rows' slices, the room's; what they read as; lows; lowest -/
structure Cur where
  (lv : Nat → Value) (vr : Value) (R : Am) (Le : Nat → Am) (lo : Nat → Nat) (lw : Nat → Nat)
structure GeoOk (G : Geo) : Prop where
  n256 : G.n ≤ 256
  s1 : 1 ≤ G.size
  s256 : G.size ≤ 256
  ns : G.n ≤ G.size
  t : ¬ G.ow G.T ∧ ¬ G.ow G.GN ∧ ¬ G.ow G.GL ∧ ¬ G.ow G.GW ∧ ¬ G.ow G.GO
  d : G.T ≠ G.GN ∧ G.T ≠ G.GL ∧ G.T ≠ G.GW ∧ G.T ≠ G.GO ∧ G.GN ≠ G.GL ∧ G.GN ≠ G.GW ∧ G.GN ≠ G.GO ∧ G.GL ≠ G.GW ∧ G.GL ≠ G.GO ∧ G.GW ≠ G.GO
/-- what a step of the tree may change -/
def Dt (G : Geo) (k : Nat) : Prop := k = G.T ∨ k = G.GL ∨ k = G.GW ∨ k = G.GO ∨ G.ow k
/-- amounts as they are built -/
structure AmOk (L : Am) : Prop where
  s : Sorted L
  p : ∀ (i : Nat) (p : Nat × Nat), L[i]? = some p → 1 ≤ p.2
  l : L.length ≤ 256
/-- a row of the tree's own -/
def OwnG (w : World) (G : Geo) (v : Value) (L : Am) : Prop := OwnAm w 0 v L ∧ ∀ b, v.ownBlock = some b → G.ow b
theorem OwnG.amv {w : World} {G : Geo} {v : Value} {L : Am} (h : OwnG w G v L) : AmV w v L := OwnAm.amv h.1
theorem OwnG.chg {D : Nat → Prop} {w w' : World} {G : Geo} {v : Value} {L : Am} (h : OwnG w G v L) (hc : Chg D w w') (hd : ∀ k, v.ownBlock = some k → ¬ D k) : OwnG w' G v L := ⟨OwnAm.chg h.1 hc hd, h.2⟩
theorem OwnG.ge {w : World} {G : Geo} {v : Value} {L : Am} (h : OwnG w G v L) : ∀ k, v.ownBlock = some k → G.ow k ∧ k < w.heap.size := fun k hk => ⟨h.2 k hk, (OwnAm.ge h.1 k hk).2⟩
theorem OwnG.nil (w : World) (G : Geo) : OwnG w G (.slice none 0 0) [] := ⟨OwnAm.nil _ _, fun b hb => by cases hb⟩
structure Tree (w : World) (G : Geo) (N : Nat → Am) (nv : Nat → Value) (al : Bool) (X : Cur) : Prop where
  ok : GeoOk G
  sz : ∀ b, w.heap.size ≤ b → G.ow b
  tr : ∃ f, RowIs w G.T 51 12 f ∧ f 0 = .int .i64 (G.size : Int) ∧ f 1 = .slice none 0 0 ∧ f 3 = .slice (some ⟨G.GN, 0, none⟩) G.n G.n ∧ f 4 = .slice (some ⟨G.GL, 0, none⟩) (G.size - 1) (G.size - 1) ∧ f 5 = .slice (some ⟨G.GW, 0, none⟩) ((G.size - 1) * 8) ((G.size - 1) * 8) ∧ f 6 = .slice (some ⟨G.GO, 0, none⟩) (G.size - 1) (G.size - 1) ∧ f 10 = X.vr ∧ f 11 = .bool al
  nr : RowIs w G.GN 49 G.n nv
  na : ∀ i, i < G.n → AmV w (nv i) (N i)
  nb : ∀ i, i < G.n → ∀ b, (nv i).ownBlock = some b → ¬ Dt G b
  no : ∀ i, i < G.n → AmOk (N i)
  lr : RowIs w G.GL 49 (G.size - 1) X.lv
  la : ∀ k, k < G.size - 1 → OwnG w G (X.lv k) (X.Le k)
  lok : ∀ k, k < G.size - 1 → AmOk (X.Le k)
  rr : OwnG w G X.vr X.R
  ss : ∀ k, k < G.size - 1 → ∀ b, (X.lv k).ownBlock = some b → X.vr.ownBlock ≠ some b ∧ ∀ j, j < G.size - 1 → j ≠ k → (X.lv j).ownBlock ≠ some b
  or : RowIs w G.GO 5 (G.size - 1) (fun k => .int .u8 (X.lo k : Int))
  wr : RowIs w G.GW 21 ((G.size - 1) * 8) (fun k => .int .i32 (X.lw k : Int))
  o9 : ∀ k, k < G.size - 1 → X.lo k ≤ 9
  w8 : ∀ k j, k < G.size - 1 → X.lo k ≤ 8 → j < X.lo k → X.lw (k * 8 + j) < G.n
  tx : ∀ k, k = 2 ∨ k = 7 ∨ k = 8 ∨ k = 9 → ∃ a n c, w.cell? ⟨G.T, k, none⟩ = some (.slice a n c)
/-- the struct's cells -/
structure TC (w : World) (G : Geo) (vr : Value) (al : Bool) : Prop where
  c0 : w.cell? ⟨G.T, 0, none⟩ = some (.int .i64 (G.size : Int))
  c1 : w.cell? ⟨G.T, 1, none⟩ = some (.slice none 0 0)
  c3 : w.cell? ⟨G.T, 3, none⟩ = some (.slice (some ⟨G.GN, 0, none⟩) G.n G.n)
  c4 : w.cell? ⟨G.T, 4, none⟩ = some (.slice (some ⟨G.GL, 0, none⟩) (G.size - 1) (G.size - 1))
  c5 : w.cell? ⟨G.T, 5, none⟩ = some (.slice (some ⟨G.GW, 0, none⟩) ((G.size - 1) * 8) ((G.size - 1) * 8))
  c6 : w.cell? ⟨G.T, 6, none⟩ = some (.slice (some ⟨G.GO, 0, none⟩) (G.size - 1) (G.size - 1))
  c10 : w.cell? ⟨G.T, 10, none⟩ = some vr
  c11 : w.cell? ⟨G.T, 11, none⟩ = some (.bool al)
theorem Tree.tc {w : World} {G : Geo} {N : Nat → Am} {nv : Nat → Value} {al : Bool} {X : Cur} (h : Tree w G N nv al X) : TC w G X.vr al := by
  obtain ⟨f, hf, e0, e1, e3, e4, e5, e6, e10, e11⟩ := h.tr
  exact ⟨by rw [hf.cell (by decide), e0], by rw [hf.cell (by decide), e1], by rw [hf.cell (by decide), e3], by rw [hf.cell (by decide), e4], by rw [hf.cell (by decide), e5], by rw [hf.cell (by decide), e6], by rw [hf.cell (by decide), e10], by rw [hf.cell (by decide), e11]⟩
/-- the set in memory -/
def SetAt (w : World) (G : Geo) (SB : Nat) (mem : Nat → Bool) : Prop :=
  ∃ (LB WB l1 c1 words c2 : Nat) (V : Nat → Nat), w.cell? ⟨SB, 0, none⟩ = some (.slice (some ⟨LB, 0, none⟩) l1 c1) ∧ 0 < l1 ∧ w.cell? ⟨LB, 0, none⟩ = some (.slice (some ⟨WB, 0, none⟩) words c2) ∧ G.n ≤ 64 * words ∧
    (∀ j, j < words → w.cell? ⟨WB, j, none⟩ = some (.int .u64 (V j : Int)) ∧ V j < 18446744073709551616) ∧ (∀ k, k < G.n → (V (k / 64)).testBit (k % 64) = mem k) ∧ ¬ Dt G SB ∧ ¬ Dt G LB ∧ ¬ Dt G WB
theorem SetAt.chg {w w' : World} {G : Geo} {SB : Nat} {mem : Nat → Bool} (h : SetAt w G SB mem) (hc : Chg (Dt G) w w') : SetAt w' G SB mem := by
  obtain ⟨LB, WB, l1, c1, words, c2, V, h1, h2, h3, h4, h5, h6, d1, d2, d3⟩ := h
  exact ⟨LB, WB, l1, c1, words, c2, V, hc.cell h1 d1, h2, hc.cell h3 d2, h4, fun j hj => ⟨hc.cell (h5 j hj).1 d3, (h5 j hj).2⟩, h6, d1, d2, d3⟩
/-- new blocks, and none of the old changed: the tree stands -/
theorem Tree.new {w w' : World} {G : Geo} {N : Nat → Am} {nv : Nat → Value} {al : Bool} {X : Cur} (h : Tree w G N nv al X) (hc : New w w') : Tree w' G N nv al X := by
  obtain ⟨f, hf, r⟩ := h.tr
  exact ⟨h.ok, fun b hb => h.sz b (Nat.le_trans hc.size hb), ⟨f, hf.chg hc (fun h => h), r⟩, h.nr.chg hc (fun h => h), fun i hi => (h.na i hi).new hc, h.nb, h.no, h.lr.chg hc (fun h => h), fun k hk => (h.la k hk).chg hc (fun _ _ h => h), h.lok, h.rr.chg hc (fun _ _ h => h), h.ss, h.or.chg hc (fun h => h), h.wr.chg hc (fun h => h), h.o9, h.w8, fun k hk => by
    obtain ⟨a, n, c, h1⟩ := h.tx k hk
    exact ⟨a, n, c, hc.cell h1 (fun h => h)⟩⟩

theorem group_any (G : Geo) (vr : Value) (al : Bool) (p : Int) (w : World) (h : TC w G vr al) : Calls Yba.prog 25 #[.pointer (some ⟨G.T, 0, none⟩), .int .i64 p] w fun e w' => e = .returned (.int .i64 p) ∧ w' = w := by
  have h1 := h.c1
  have hnil : ∀ wz, (binOp .eql 45 (.slice none 0 0) (.slice none 0 0)).run Yba.prog wz = .ok (.bool true) wz := fun wz => by kernel_rfl
  go_enter Yba.func25, Yba.ntmps25
  go_wp2_with fail
  go_ret
  exact ⟨rfl, rfl⟩
theorem wrap_pow (b : Nat) (hb : b < 64) : IntKind.u64.wrap (2 ^ b) = ((2 ^ b : Nat) : Int) ∧ (2 : Nat) ^ b < 18446744073709551616 := by
  have hp : (2 : Nat) ^ b < 18446744073709551616 := by
    have : (2 : Nat) ^ b < 2 ^ 64 := Nat.pow_lt_pow_right (by decide) hb
    simpa using this
  refine ⟨?_, hp⟩
  have e : (2 : Int) ^ b = ((2 ^ b : Nat) : Int) := by simp
  rw [e]
  generalize (2 : Nat) ^ b = x at hp ⊢
  simp [IntKind.wrap, IntKind.signed, IntKind.bits]
  omega
theorem and_pow_ne (v b : Nat) : decide (v &&& 2 ^ b ≠ 0) = v.testBit b := by
  cases h : v.testBit b with
  | true =>
    refine decide_eq_true fun e => ?_
    have : (v &&& 2 ^ b).testBit b = true := by rw [Nat.testBit_and, h, Nat.testBit_two_pow]; simp
    rw [e] at this
    simp at this
  | false =>
    refine decide_eq_false fun e => e ?_
    refine Nat.eq_of_testBit_eq fun i => ?_
    rw [Nat.testBit_and, Nat.testBit_two_pow, Nat.zero_testBit]
    by_cases hi : b = i
    · subst hi; rw [h]; rfl
    · simp [hi]
theorem bit_test (v b : Nat) (hv : v < 18446744073709551616) (hb : b < 64) : (bits .and .u64 (v : Int) (IntKind.u64.wrap (2 ^ b)) != 0) = v.testBit b := by
  obtain ⟨hw, hp⟩ := wrap_pow b hb
  rw [hw, bits_and_u64_nat v (2 ^ b) hv hp, ← and_pow_ne]
  generalize v &&& 2 ^ b = x
  by_cases h : x = 0
  · subst h; rfl
  · simp [h]
theorem has_any (G : Geo) (SB k : Nat) (mem : Nat → Bool) (w : World) (h : SetAt w G SB mem) (hk : k < G.n) (hn : G.n ≤ 256) : Calls Yba.prog 26 #[.pointer (some ⟨SB, 0, none⟩), .int .i64 (k : Int)] w fun e w' => e = .returned (.bool (mem k)) ∧ w' = w := by
  obtain ⟨LB, WB, l1, c1, words, c2, V, h1, hl, h2, h4, h5, h6, _⟩ := h
  obtain ⟨h3, hv⟩ := h5 (k / 64) (by omega)
  have hkk : (k : Int) % 18446744073709551616 = (k : Int) := by omega
  have hw : k / 64 < words := by omega
  have HB : Hid ((bits .and .u64 (V (k / 64) : Int) (IntKind.u64.wrap (2 ^ (k % 64))) != 0) = mem k) := by
    show _ = _
    rw [← h6 k hk]; exact bit_test _ _ hv (Nat.mod_lt _ (by decide))
  clear h5 h6 hv
  go_enter Yba.func26, Yba.ntmps26
  go_wp2_with fail
  go_ret
  exact ⟨by rw [← HB.out]; rfl, rfl⟩
theorem need_any (G : Geo) (vr : Value) (al : Bool) (nv : Nat → Value) (p : Nat) (w : World) (h : TC w G vr al) (hn : RowIs w G.GN 49 G.n nv) (hp : p < G.n) : Calls Yba.prog 21 #[.pointer (some ⟨G.T, 0, none⟩), .int .i64 (p : Int)] w fun e w' => e = .returned (nv p) ∧ w' = w := by
  have h3 := h.c3
  have hc := hn.cell hp
  go_enter Yba.func21, Yba.ntmps21
  go_wp2_with fail
  go_ret
  exact ⟨rfl, rfl⟩
/-- is the group of place p held? -/
def held (G : Geo) (mem : Nat → Bool) (p : Nat) : Bool := decide (p < G.n) && mem p
set_option maxHeartbeats 400000 in
theorem leaf_any (G : Geo) (vr : Value) (al : Bool) (SB r : Nat) (mem : Nat → Bool) (w : World) (h : TC w G vr al) (hs : SetAt w G SB mem) (hn : G.n ≤ 256) (hr : G.size ≤ r) (hr2 : r < 1000) :
    Calls Yba.prog 20 #[.pointer (some ⟨G.T, 0, none⟩), .pointer (some ⟨SB, 0, none⟩), .int .i64 (r : Int)] w fun e w' => ∃ i : Int, e = .returned (.tuple #[.int .i64 i, .bool (held G mem (r - G.size))]) ∧ w' = w := by
  have h0 := h.c0
  have h3 := h.c3
  obtain ⟨p, ep⟩ : ∃ p, p = r - G.size := ⟨_, rfl⟩
  rw [← ep]
  have HC : Hid (TC w G vr al) := h
  have HS : Hid (SetAt w G SB mem) := hs
  clear h hs
  have e1 : (r : Int) - (G.size : Int) = (p : Int) := by omega
  clear ep
  by_cases hp : p < G.n
  · have HH : Hid (held G mem p = mem p) := by show held G mem p = mem p; simp [held, hp]
    go_enter Yba.func20, Yba.ntmps20
    go_wp2_with fail
    refine (group_any G vr al _ w HC.out).mono ?_
    rintro e w' ⟨rfl, rfl⟩
    go_wp2_with fail
    refine (has_any G SB p mem _ HS.out hp hn).mono ?_
    rintro e w' ⟨rfl, rfl⟩
    go_wp2_with fail
    go_ret2
    exact ⟨_, by rw [HH.out]; rfl, rfl⟩
  · have HH : Hid (held G mem p = false) := by show held G mem p = false; simp [held, hp]
    go_enter Yba.func20, Yba.ntmps20
    go_wp2_with fail
    go_ret2
    exact ⟨_, by rw [HH.out]; rfl, rfl⟩
/-- what a range holds: its least, and whether it holds a group of the set -/
def rangeLe (G : Geo) (N : Nat → Am) (mem : Nat → Bool) (X : Cur) (r : Nat) : Am := if r < G.size then X.Le (r - 1) else if held G mem (r - G.size) then N (r - G.size) else []
def rangeIn (G : Geo) (mem : Nat → Bool) (X : Cur) (r : Nat) : Bool := if r < G.size then ((X.lo (r - 1) : Int) != 0) else held G mem (r - G.size)
def rangeVal (G : Geo) (nv : Nat → Value) (mem : Nat → Bool) (X : Cur) (r : Nat) : Value := if r < G.size then X.lv (r - 1) else if held G mem (r - G.size) then nv (r - G.size) else .slice none 0 0
set_option maxHeartbeats 1000000 in
theorem rangeLeast_any (G : Geo) (N : Nat → Am) (nv : Nat → Value) (al : Bool) (X : Cur) (SB r : Nat) (mem : Nat → Bool) (w : World) (h : Tree w G N nv al X) (hs : SetAt w G SB mem) (hr1 : 1 ≤ r) (hr2 : r < 1000) :
    Calls Yba.prog 15 #[.pointer (some ⟨G.T, 0, none⟩), .pointer (some ⟨SB, 0, none⟩), .int .i64 (r : Int)] w fun e w' => e = .returned (.tuple #[rangeVal G nv mem X r, .bool (rangeIn G mem X r)]) ∧ New w w' := by
  have HT : Hid (Tree w G N nv al X) := h
  have HC : Hid (TC w G X.vr al) := h.tc
  have HS : Hid (SetAt w G SB mem) := hs
  have h0 := h.tc.c0
  have h4 := h.tc.c4
  have h6 := h.tc.c6
  have hn := h.ok.n256
  by_cases hrs : r < G.size
  · have hl := h.lr.cell (i := r - 1) (by omega)
    have ho := h.or.cell (i := r - 1) (by omega)
    have HV : Hid (rangeVal G nv mem X r = X.lv (r - 1)) := by show _ = _; simp [rangeVal, hrs]
    have HI : Hid (rangeIn G mem X r = ((X.lo (r - 1) : Int) != 0)) := by show _ = _; simp [rangeIn, hrs]
    have e1 : (r : Int) - 1 = ((r - 1 : Nat) : Int) := by omega
    clear h hs
    generalize X.lv (r - 1) = q at *
    generalize X.lo (r - 1) = lo1 at *
    generalize r - 1 = r1 at *
    go_enter Yba.func15, Yba.ntmps15
    go_wp2_with fail
    go_region
    go_wp2_with fail
    go_ret2
    exact ⟨by rw [HV.out, HI.out]; rfl, (Chg.refl _ w).drew⟩
  · obtain ⟨p, ep⟩ : ∃ p, p = r - G.size := ⟨_, rfl⟩
    have e1 : (r : Int) - (G.size : Int) = (p : Int) := by omega
    have HV : Hid (rangeVal G nv mem X r = if held G mem p then nv p else .slice none 0 0) := by show _ = _; simp [rangeVal, hrs, ep]
    have HI : Hid (rangeIn G mem X r = held G mem p) := by show _ = _; simp [rangeIn, hrs, ep]
    have HL := leaf_any G X.vr al SB r mem w h.tc hs hn (by omega) hr2
    rw [← ep] at HL
    have HLL : Hid (Calls Yba.prog 20 #[.pointer (some ⟨G.T, 0, none⟩), .pointer (some ⟨SB, 0, none⟩), .int .i64 (r : Int)] w fun e w' => ∃ i : Int, e = .returned (.tuple #[.int .i64 i, .bool (held G mem p)]) ∧ w' = w) := HL
    have hpn : held G mem p = true → p < G.n := fun h => by unfold held at h; simp at h; exact h.1
    have HP : Hid (held G mem p = true → p < G.n) := hpn
    clear h hs HL ep hpn
    generalize held G mem p = hd at *
    go_enter Yba.func15, Yba.ntmps15
    go_wp2_with fail
    refine HLL.out.mono ?_
    rintro e w' ⟨i, rfl, rfl⟩
    cases hd with
    | true =>
      go_wp2_with fail
      refine (need_any G X.vr al nv p _ HC.out HT.out.nr (HP.out (by simp))).mono ?_
      rintro e w' ⟨rfl, rfl⟩
      go_wp2_with fail
      go_ret2
      exact ⟨by rw [HV.out, HI.out]; rfl, Chg.refl _ _⟩
    | false =>
      go_wp2_with fail
      go_ret2
      exact ⟨by rw [HV.out, HI.out]; rfl, Chg.refl _ _⟩
theorem rangeAm {w : World} {G : Geo} {N : Nat → Am} {nv : Nat → Value} {al : Bool} {X : Cur} (h : Tree w G N nv al X) (mem : Nat → Bool) {r : Nat} (hr : 1 ≤ r) :
    AmV w (rangeVal G nv mem X r) (rangeLe G N mem X r) ∧ AmOk (rangeLe G N mem X r) := by
  unfold rangeVal rangeLe
  by_cases h1 : r < G.size
  · rw [if_pos h1, if_pos h1]
    exact ⟨(h.la (r - 1) (by omega)).amv, h.lok (r - 1) (by omega)⟩
  · rw [if_neg h1, if_neg h1]
    by_cases h2 : held G mem (r - G.size) = true
    · rw [if_pos h2, if_pos h2]
      have hp : r - G.size < G.n := by unfold held at h2; simp at h2; exact h2.1
      exact ⟨h.na _ hp, h.no _ hp⟩
    · rw [if_neg h2, if_neg h2]
      exact ⟨AmV.nil w, ⟨fun i j p q _ hp => by simp at hp, fun i p hp => by simp at hp, by simp⟩⟩
/-- the tree with another count of lowest needs at k -/
def Cur.setLo (X : Cur) (k v : Nat) : Cur := { X with lo := fun j => if j = k then v else X.lo j }
theorem Tree.setLo {w : World} {G : Geo} {N : Nat → Am} {nv : Nat → Value} {al : Bool} {X : Cur} (h : Tree w G N nv al X) {k v : Nat} (hk : k < G.size - 1) (hv : v = 9 ∨ v = 0) : Tree (w.setCell ⟨G.GO, k, none⟩ (.int .u8 (v : Int))) G N nv al (X.setLo k v) := by
  obtain ⟨f, hf, r⟩ := h.tr
  have ht := h.ok.t
  have hd := h.ok.d
  have hc : Chg (fun b => b = G.GO) w (w.setCell ⟨G.GO, k, none⟩ (.int .u8 (v : Int))) := Chg.set (D := fun b => b = G.GO) (Chg.refl _ w) (fun _ => rfl) _
  have hO : ∀ {v : Value} {L : Am}, OwnG w G v L → ∀ b, v.ownBlock = some b → ¬ b = G.GO := fun ho b hb e => ht.2.2.2.2 (by rw [← e]; exact (ho.ge b hb).1)
  refine ⟨h.ok, fun b hb => h.sz b (Nat.le_trans hc.size hb), ⟨f, hf.chg hc (by omega), r⟩, h.nr.chg hc (by omega), fun i hi => (h.na i hi).chg hc (fun b hb e => h.nb i hi b hb (.inr (.inr (.inr (.inl e))))), h.nb, h.no, h.lr.chg hc (by omega), fun j hj => (h.la j hj).chg hc (hO (h.la j hj)), h.lok, h.rr.chg hc (hO h.rr), h.ss, ?_, h.wr.chg hc (by omega), fun j hj => ?_, fun j q hj h8 hq => ?_, fun k hk => by
    obtain ⟨a, n, c, h1⟩ := h.tx k hk
    exact ⟨a, n, c, hc.cell h1 (by omega)⟩⟩
  · refine (h.or.set hk _).ext fun j hj => ?_
    show (if j = k then _ else _) = Value.int .u8 ((if j = k then v else X.lo j : Nat) : Int)
    split <;> rfl
  · show (if j = k then v else X.lo j) ≤ 9
    have := h.o9 j hj
    split <;> omega
  · have h8' : (if j = k then v else X.lo j) ≤ 8 := h8
    have hq' : q < (if j = k then v else X.lo j) := hq
    by_cases e : j = k
    · rw [if_pos e] at h8' hq'; omega
    · rw [if_neg e] at h8' hq'; exact h.w8 j q hj h8' hq'
theorem sumHeld_any (G : Geo) (N : Nat → Am) (nv : Nat → Value) (al : Bool) (X : Cur) (r : Nat) (hd : Bool) (w : World) (h : Tree w G N nv al X) (hr1 : 1 ≤ r) (hr2 : r < G.size) :
    Calls Yba.prog 16 #[.pointer (some ⟨G.T, 0, none⟩), .int .i64 (r : Int), .bool hd] w fun e w' => e = .returned (.bool (((if hd then 9 else 0 : Nat) : Int) != (X.lo (r - 1) : Int))) ∧ Tree w' G N nv al (X.setLo (r - 1) (if hd then 9 else 0)) ∧ Chg (Dt G) w w' := by
  have HT : Hid (Tree w G N nv al X) := h
  have h6 := h.tc.c6
  have hs256 := h.ok.s256
  have ho := h.or.cell (i := r - 1) (by omega)
  have hf := h.or.frozen (r - 1)
  have e1 : (r : Int) - 1 = ((r - 1 : Nat) : Int) := by omega
  have HW : Hid (∀ v : Nat, v = 9 ∨ v = 0 → Tree (w.setCell ⟨G.GO, r - 1, none⟩ (.int .u8 (v : Int))) G N nv al (X.setLo (r - 1) v) ∧ Chg (Dt G) w (w.setCell ⟨G.GO, r - 1, none⟩ (.int .u8 (v : Int)))) := fun v hv => ⟨h.setLo (by omega) hv, Chg.set (D := Dt G) (Chg.refl _ w) (fun _ => .inr (.inr (.inr (.inl rfl)))) _⟩
  clear h
  generalize X.lo (r - 1) = lo1 at *
  have hsz : r - 1 < G.size - 1 := by omega
  generalize r - 1 = r1 at *
  cases hd with
  | true =>
    go_enter Yba.func16, Yba.ntmps16
    go_wp2_with fail
    go_ret
    exact ⟨rfl, HW.out 9 (.inl rfl)⟩
  | false =>
    go_enter Yba.func16, Yba.ntmps16
    go_wp2_with fail
    go_ret
    exact ⟨rfl, HW.out 0 (.inr rfl)⟩
end Go.Proofs.Ybulkbtdo.U
